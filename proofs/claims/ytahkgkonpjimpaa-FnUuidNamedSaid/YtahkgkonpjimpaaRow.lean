/-
  Bytes that came in, as the row's frame tells them, are bytes in memory.
-/
import Derived.Test.YtahkgkonpjimpaaBase
import Derived.ProofKit
import Derived.OpenShut
namespace Go.Proofs.Ytahkgkonpjimpaa
open Go.RowKit
set_option linter.unusedVariables false
theorem u8_of_wf (n : Int) (h : (Lit.int .u8 n).wf = true) : ((UInt8.ofNat n.toNat).toNat : Int) = n ∧ 0 ≤ n ∧ n < 256 := by
  have h1 : IntKind.u8.min = 0 := rfl
  have h2 : IntKind.u8.max = 255 := rfl
  simp only [Lit.wf, Bool.and_eq_true, decide_eq_true_eq] at h
  refine ⟨?_, by omega, by omega⟩
  rw [UInt8.toNat_ofNat']
  omega
/-- What the walk is told of a slice of integers that came in (the guide's proof skeleton): it is nil; or it leads to a row of cap cells, the numbers zs, each fitting its kind. -/
def IsRow (k : IntKind) (w : World) (a : Option Addr) (len cap : Nat) (zs : List Int) : Prop :=
  (a = none ∧ len = 0 ∧ cap = 0 ∧ zs = []) ∨
  ∃ x, a = some x ∧ len ≤ cap ∧ cap ≤ maxLen ∧ zs.length = cap ∧ (∀ i, i < zs.length → w.cell? (x.add i) = some (.int k (zs.getD i 0))) ∧ ∀ n ∈ zs, (Lit.int k n).wf = true
theorem bytes_of_row {w : World} {a : Option Addr} {len cap : Nat} {zs : List Int}
    (h : IsRow .u8 w a len cap zs) :
    ∃ bs : List UInt8, bs.length = len ∧ Byt w a bs ∧ (a = none → cap = 0) ∧ len ≤ cap := by
  rcases h with ⟨rfl, rfl, rfl, rfl⟩ | ⟨x, rfl, hl, hm, hz, hcell, hwz⟩
  · exact ⟨[], rfl, Byt.nil _ _, fun _ => rfl, Nat.le_refl _⟩
  · refine ⟨(zs.take len).map fun n => UInt8.ofNat n.toNat, by simp; omega, ?_, (fun h => by cases h), hl⟩
    intro hp
    have hp' : 0 < zs.length := by simp at hp; omega
    obtain ⟨b, off, spot⟩ := x
    have hc := hcell 0 hp'
    have hspot : spot = none := by simpa [Addr.add] using World.cell?_spot hc
    subst hspot
    refine ⟨b, off, rfl, by simpa [Addr.add] using block_lt_of_cell hc, fun j hj => ?_⟩
    have hj' : j < zs.length := by simp at hj; omega
    have := hcell j hj'
    rw [add_plain'] at this
    rw [this]
    have e := (u8_of_wf zs[j] (hwz _ (List.getElem_mem hj'))).1
    simp only [B8, List.getElem_map, List.getElem_take]
    rw [e]
    simp [List.getD, hj']
end Go.Proofs.Ytahkgkonpjimpaa
