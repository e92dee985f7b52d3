/-
  IDs of one counter ascend, in plain numbers.
-/
import Derived.Test.YtppcpidlnpencaaRowI
import Derived.Test.YtppcpidlnpencaaCmpLaw
import Derived.Test.YtppcpidlnpencaaRising
namespace Go.Proofs.Ytppcpidlnpencaa
open Go.RowKit
set_option linter.unusedVariables false
theorem numB_append (xs ys : List UInt8) : numB (xs ++ ys) = numB xs * 256 ^ ys.length + numB ys := by
  induction xs with
  | nil => simp [numB]
  | cons a p ih =>
    rw [List.cons_append, numB_cons, numB_cons, ih, List.length_append, Nat.pow_add, Nat.add_mul, Nat.mul_assoc]
    omega
theorem numB_xidB (s : Nat) (m0 m1 m2 : UInt8) (p q : Nat) (hs : s < 4294967296) (hp : p < 65536) (hq : q < 16777216) :
    numB (xidB s [m0, m1, m2] p q) = ((s * 16777216 + numB [m0, m1, m2]) * 65536 + p) * 16777216 + q := by
  unfold xidB
  rw [numB_append, numB_append, numB_append, numB_bytesN 4 s (by omega), numB_bytesN 2 p (by omega), numB_bytesN 3 q (by omega), bytesN_length, bytesN_length, show ([m0, m1, m2] : List UInt8).length = 3 from rfl, show 256 ^ 3 = 16777216 from by decide, show 256 ^ 2 = 65536 from by decide]
theorem xidB_lt (s s' : Nat) (m0 m1 m2 : UInt8) (p q q' : Nat) (hs : s < 4294967296) (hs' : s' < 4294967296) (hp : p < 65536) (hq : q < 16777216) (hq' : q' < 16777216) (h : s ≤ s') (hlt : q < q') :
    cmpB (xidB s [m0, m1, m2] p q) (xidB s' [m0, m1, m2] p q') < 0 := by
  rw [(cmpB_num _ _ (by rw [xidB_length _ _ _ _ rfl, xidB_length _ _ _ _ rfl])).1, numB_xidB s m0 m1 m2 p q hs hp hq, numB_xidB s' m0 m1 m2 p q' hs' hp hq']
  have := Nat.mul_le_mul_right 16777216 h
  omega
theorem rowK_get (ss : List Nat) (ms : List UInt8) (p ctr n j : Nat) (L : List UInt8) (h : (rowK ss ms p ctr n)[j]? = some L) : j < n ∧ L = xidB (ss.getD j 0) ms p ((ctr + j + 1) % 16777216) := by
  have h1 := (List.getElem?_eq_some_iff.1 h).1
  rw [rowK_length] at h1
  refine ⟨h1, ?_⟩
  unfold rowK at h
  simp [h1] at h
  exact h.symm
theorem rowK_all (ss : List Nat) (m0 m1 m2 : UInt8) (p ctr n : Nat) : ∀ L ∈ rowK ss [m0, m1, m2] p ctr n, L.length = 12 := by
  intro L hL
  obtain ⟨j, hj⟩ := List.mem_iff_getElem?.1 hL
  obtain ⟨-, rfl⟩ := rowK_get _ _ _ _ _ _ _ hj
  exact xidB_length _ _ _ _ rfl
theorem rowK_ascend (ss : List Nat) (m0 m1 m2 : UInt8) (p ctr n : Nat) (h12 : n ≤ 12) (hp : p < 65536) (hs : ∀ j, j < n → ss.getD j 0 < 4294967296) (ha : ∀ j, j + 1 < n → ss.getD j 0 ≤ ss.getD (j + 1) 0) (hc : ctr % 16777216 ≤ 16777196) :
    Ascend (rowK ss [m0, m1, m2] p ctr n) := by
  intro j A B hA hB
  obtain ⟨h1, rfl⟩ := rowK_get _ _ _ _ _ _ _ hA
  obtain ⟨h2, rfl⟩ := rowK_get _ _ _ _ _ _ _ hB
  exact xidB_lt _ _ m0 m1 m2 p _ _ (hs j h1) (hs _ h2) hp (Nat.mod_lt _ (by omega)) (Nat.mod_lt _ (by omega)) (ha j h2) (by omega)
/-- The times are good up to k. -/
def GoodK (zs : List Int) (k : Nat) : Prop := ∀ j, j < k → 0 ≤ zs.getD j 0 ∧ zs.getD j 0 ≤ 4294967295 ∧ (0 < j → zs.getD (j - 1) 0 ≤ zs.getD j 0)
theorem GoodK.step {zs : List Int} {k : Nat} (h : GoodK zs k) (h1 : 0 ≤ zs.getD k 0) (h2 : zs.getD k 0 ≤ 4294967295) (h3 : 0 < k → zs.getD (k - 1) 0 ≤ zs.getD k 0) : GoodK zs (k + 1) := fun j hj => by
  by_cases e : j < k
  · exact h j e
  · obtain rfl : j = k := by omega
    exact ⟨h1, h2, h3⟩
theorem nats_of (zs : List Int) (h : GoodK zs zs.length) : ∃ ss : List Nat, zs = ss.map (fun (s : Nat) => (s : Int)) ∧ ss.length = zs.length ∧ (∀ s ∈ ss, s < 4294967296) ∧ (∀ j, j < zs.length → ss.getD j 0 < 4294967296) ∧ (∀ j, j + 1 < zs.length → ss.getD j 0 ≤ ss.getD (j + 1) 0) := by
  have hz : ∀ z ∈ zs, 0 ≤ z ∧ z ≤ 4294967295 := by
    intro z hz
    obtain ⟨j, hj, rfl⟩ := List.getElem_of_mem hz
    have := h j hj
    simp only [List.getD, List.getElem?_eq_getElem hj, Option.getD_some] at this
    exact ⟨this.1, this.2.1⟩
  refine ⟨zs.map Int.toNat, ?_, by simp, ?_, ?_, ?_⟩
  · rw [List.map_map]
    refine (List.map_congr_left (g := id) fun z hz' => ?_).trans (List.map_id _) |>.symm
    have := hz z hz'
    simp
    omega
  · intro s hs
    obtain ⟨z, hz', rfl⟩ := List.mem_map.1 hs
    have := hz z hz'
    omega
  · intro j hj
    have := hz zs[j] (List.getElem_mem hj)
    simp only [List.getD, List.getElem?_map, List.getElem?_eq_getElem hj, Option.map_some, Option.getD_some]
    omega
  · intro j hj
    have h1 := (h (j + 1) hj).2.2 (by omega)
    have h2 : j < zs.length := by omega
    simp only [Nat.add_sub_cancel, List.getD, List.getElem?_eq_getElem hj, List.getElem?_eq_getElem h2, Option.getD_some] at h1
    simp only [List.getD, List.getElem?_map, List.getElem?_eq_getElem hj, List.getElem?_eq_getElem h2, Option.map_some, Option.getD_some]
    omega
end Go.Proofs.Ytppcpidlnpencaa
