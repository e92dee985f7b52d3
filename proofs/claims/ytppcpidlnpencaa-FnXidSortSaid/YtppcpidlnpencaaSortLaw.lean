/-
  The plain law of sorting: the insertion in place and the insertion into a new list are one.
-/
import Derived.Test.YtppcpidlnpencaaCmp
namespace Go.Proofs.Ytppcpidlnpencaa
open Go.RowKit
set_option linter.unusedVariables false
theorem cmpB_flip : ∀ xs ys : List UInt8, cmpB ys xs = -cmpB xs ys
  | [], [] => rfl
  | a :: p, b :: q => by
    unfold cmpB
    by_cases e : a = b
    · subst e; rw [if_pos rfl, if_pos rfl, cmpB_flip p q]
    · rw [if_neg e, if_neg (Ne.symm e)]
      have hne : a.toNat ≠ b.toNat := fun h => e (UInt8.toNat_inj.1 h)
      rcases Nat.lt_or_gt_of_ne hne with hlt | hgt
      · rw [if_pos hlt, if_neg (by omega)]; rfl
      · rw [if_pos hgt, if_neg (by omega)]
  | [], _ :: _ => rfl
  | _ :: _, [] => rfl
def flat (Ls : List (List UInt8)) (rest : List Value) : List Value := Ls.flatten.map B8 ++ rest
theorem flat_cons (L : List UInt8) (Ls : List (List UInt8)) (rest : List Value) : flat (L :: Ls) rest = L.map B8 ++ flat Ls rest := by simp [flat]
theorem flat_len : ∀ (Ls : List (List UInt8)) (rest : List Value), (∀ L ∈ Ls, L.length = 12) → (flat Ls rest).length = Ls.length * 12 + rest.length
  | [], rest, h => by simp [flat]
  | L :: Ls, rest, h => by
    rw [flat_cons, List.length_append, List.length_map, h L (by simp), flat_len Ls rest fun X hX => h X (by simp [hX]), List.length_cons]
    omega
theorem flat_at : ∀ (Ls : List (List UInt8)) (rest : List Value) (i : Nat) (L : List UInt8), (∀ L ∈ Ls, L.length = 12) → Ls[i]? = some L → ((flat Ls rest).drop (i * 12)).take 12 = L.map B8
  | [], rest, i, L, h, hi => by simp at hi
  | X :: Ls, rest, 0, L, h, hi => by
    simp at hi
    subst hi
    have hX : (X.map B8).length = 12 := by rw [List.length_map, h X (by simp)]
    rw [flat_cons, Nat.zero_mul, List.drop_zero, List.take_append_of_le_length (by omega), List.take_of_length_le (by omega)]
  | X :: Ls, rest, i + 1, L, h, hi => by
    have hX : (X.map B8).length = 12 := by rw [List.length_map, h X (by simp)]
    rw [flat_cons, show (i + 1) * 12 = (X.map B8).length + i * 12 by omega, List.drop_append, List.drop_eq_nil_of_le (by omega), List.nil_append, Nat.add_sub_cancel_left]
    exact flat_at Ls rest i L (fun Y hY => h Y (by simp [hY])) (by simpa using hi)
theorem splice_pre {α : Type} (A R cs : List α) (o : Nat) : splice (A ++ R) (A.length + o) cs = A ++ splice R o cs := by
  unfold splice
  rw [List.take_append, List.append_assoc, Nat.add_assoc, List.drop_append, List.take_of_length_le (by omega), Nat.add_sub_cancel_left, List.drop_eq_nil_of_le (by omega), List.nil_append, Nat.add_sub_cancel_left]
theorem flat_set : ∀ (Ls : List (List UInt8)) (rest : List Value) (i : Nat) (ys : List UInt8), (∀ L ∈ Ls, L.length = 12) → i < Ls.length → ys.length = 12 → splice (flat Ls rest) (i * 12) (ys.map B8) = flat (Ls.set i ys) rest
  | [], rest, i, ys, h, hi, hy => by simp at hi
  | X :: Ls, rest, 0, ys, h, hi, hy => by
    have hX : (X.map B8).length = 12 := by rw [List.length_map, h X (by simp)]
    rw [List.set_cons_zero, flat_cons, flat_cons, Nat.zero_mul]
    unfold splice
    rw [List.take_zero, List.nil_append, Nat.zero_add, List.length_map, hy, List.drop_append_of_le_length (by omega), List.drop_eq_nil_of_le (by omega), List.nil_append]
  | X :: Ls, rest, i + 1, ys, h, hi, hy => by
    have hX : (X.map B8).length = 12 := by rw [List.length_map, h X (by simp)]
    rw [List.set_cons_succ, flat_cons, flat_cons, show (i + 1) * 12 = (X.map B8).length + i * 12 by omega, splice_pre, flat_set Ls rest i ys (fun Y hY => h Y (by simp [hY])) (by simpa using hi) hy]
/-- The inner loop of the insertion in place. -/
def inn : Nat → List (List UInt8) → List (List UInt8)
  | 0, L => L
  | j + 1, L => if cmpB (L.getD (j + 1) []) (L.getD j []) < 0 then inn j ((L.set (j + 1) (L.getD j [])).set j (L.getD (j + 1) [])) else L
/-- Where x goes: from place k downwards as long as what is there is greater. -/
def posR (A : List (List UInt8)) (x : List UInt8) : Nat → Nat
  | 0 => 0
  | k + 1 => if 0 < cmpB (A.getD k []) x then posR A x k else k + 1
def insR (A : List (List UInt8)) (x : List UInt8) : List (List UInt8) := A.take (posR A x A.length) ++ x :: A.drop (posR A x A.length)
def sortB (Ls : List (List UInt8)) : List (List UInt8) := Ls.foldl insR []
theorem posR_le (A : List (List UInt8)) (x : List UInt8) : ∀ k, posR A x k ≤ k
  | 0 => Nat.le_refl _
  | k + 1 => by
    unfold posR
    split
    · exact Nat.le_succ_of_le (posR_le A x k)
    · exact Nat.le_refl _
theorem posR_append (A B : List (List UInt8)) (x : List UInt8) : ∀ k, k ≤ A.length → posR (A ++ B) x k = posR A x k
  | 0, _ => rfl
  | k + 1, h => by
    unfold posR
    rw [show (A ++ B).getD k [] = A.getD k [] by simp only [List.getD]; rw [List.getElem?_append_left (by omega)], posR_append A B x k (by omega)]
theorem inn_ins (x : List UInt8) : ∀ (n : Nat) (A R : List (List UInt8)), A.length = n → inn n (A ++ x :: R) = insR A x ++ R
  | 0, A, R, h => by
    obtain rfl := List.eq_nil_of_length_eq_zero h
    rfl
  | n + 1, A, R, h => by
    obtain ⟨B, a, rfl⟩ : ∃ B a, A = B ++ [a] := by
      rcases List.eq_nil_or_concat A with rfl | ⟨B, a, rfl⟩
      · simp at h
      · exact ⟨B, a, by simp⟩
    have hB : B.length = n := by simpa using h
    subst hB
    have e1 : (B ++ [a] ++ x :: R).getD (B.length + 1) [] = x := by simp [List.getD]
    have e0 : (B ++ [a] ++ x :: R).getD B.length [] = a := by simp [List.getD]
    have e2 : ((B ++ [a] ++ x :: R).set (B.length + 1) a).set B.length x = B ++ x :: (a :: R) := by simp
    have e3 : (B ++ [a]).getD B.length [] = a := by simp [List.getD]
    unfold inn insR
    rw [e1, e0, e2, inn_ins x B.length B (a :: R) rfl, show (B ++ [a]).length = B.length + 1 by simp]
    unfold posR
    rw [e3, posR_append B [a] x B.length (Nat.le_refl _), show cmpB a x = -cmpB x a from cmpB_flip x a]
    have hp := posR_le B x B.length
    by_cases hc : cmpB x a < 0
    · rw [if_pos hc, if_pos (by omega)]
      unfold insR
      rw [List.take_append_of_le_length hp, List.drop_append_of_le_length hp]
      simp
    · rw [if_neg hc, if_neg (by omega), show B.length + 1 = (B ++ [a]).length by simp, List.take_length, List.drop_length]
      simp
theorem insR_length (A : List (List UInt8)) (x : List UInt8) : (insR A x).length = A.length + 1 := by
  have := posR_le A x A.length
  unfold insR
  simp
  omega
theorem insR_mem {A : List (List UInt8)} {x y : List UInt8} (h : y ∈ insR A x) : y ∈ A ∨ y = x := by
  unfold insR at h
  rcases List.mem_append.1 h with h | h
  · exact .inl (List.mem_of_mem_take h)
  · rcases List.mem_cons.1 h with h | h
    · exact .inr h
    · exact .inl (List.mem_of_mem_drop h)
theorem sortB_snoc (Ls : List (List UInt8)) (x : List UInt8) : sortB (Ls ++ [x]) = insR (sortB Ls) x := by simp [sortB, List.foldl_append]
theorem sortB_take (Ls : List (List UInt8)) (k : Nat) (x : List UInt8) (h : Ls[k]? = some x) : sortB (Ls.take (k + 1)) = insR (sortB (Ls.take k)) x := by
  rw [← sortB_snoc, List.take_add_one, h]
  rfl
theorem sortB_length (Ls : List (List UInt8)) : ∀ k, k ≤ Ls.length → (sortB (Ls.take k)).length = k
  | 0, _ => by simp [sortB]
  | k + 1, h => by
    rw [sortB_take Ls k Ls[k] (by simp [show k < Ls.length by omega]), insR_length, sortB_length Ls k (by omega)]
theorem sortB_mem (Ls : List (List UInt8)) : ∀ k, k ≤ Ls.length → ∀ y ∈ sortB (Ls.take k), y ∈ Ls
  | 0, _, y, hy => by simp [sortB] at hy
  | k + 1, h, y, hy => by
    rw [sortB_take Ls k Ls[k] (by simp [show k < Ls.length by omega])] at hy
    rcases insR_mem hy with hy | rfl
    · exact sortB_mem Ls k (by omega) y hy
    · simp
/-- What stands before round i of the insertion in place. -/
def stage (Ls : List (List UInt8)) (i : Nat) : List (List UInt8) := sortB (Ls.take i) ++ Ls.drop i
theorem stage_one (Ls : List (List UInt8)) : stage Ls 1 = Ls := by
  cases Ls <;> simp [stage, sortB, insR, posR]
theorem stage_step (Ls : List (List UInt8)) (i : Nat) (h : i < Ls.length) : inn i (stage Ls i) = stage Ls (i + 1) := by
  unfold stage
  rw [List.drop_eq_getElem_cons h, inn_ins Ls[i] i _ _ (sortB_length Ls i (by omega)), sortB_take Ls i Ls[i] (by simp [h])]
theorem stage_end (Ls : List (List UInt8)) : stage Ls Ls.length = sortB Ls := by simp [stage]
theorem getD_12 {Ls : List (List UInt8)} (h : ∀ L ∈ Ls, L.length = 12) {i : Nat} (hi : i < Ls.length) : Ls[i]? = some (Ls.getD i []) ∧ (Ls.getD i []).length = 12 := by
  have e : Ls.getD i [] = Ls[i] := by simp [List.getD, hi]
  exact ⟨by rw [e]; simp [hi], by rw [e]; exact h _ (List.getElem_mem hi)⟩
theorem set_12 {Ls : List (List UInt8)} (h : ∀ L ∈ Ls, L.length = 12) (i : Nat) {x : List UInt8} (hx : x.length = 12) : ∀ L ∈ Ls.set i x, L.length = 12 := fun L hL => by
  rcases List.mem_or_eq_of_mem_set hL with h' | rfl
  · exact h L h'
  · exact hx
theorem stage_length (Ls : List (List UInt8)) (i : Nat) (hi : i ≤ Ls.length) : (stage Ls i).length = Ls.length := by
  unfold stage
  rw [List.length_append, sortB_length Ls i hi, List.length_drop]
  omega
theorem stage_12 (Ls : List (List UInt8)) (i : Nat) (hi : i ≤ Ls.length) (h : ∀ L ∈ Ls, L.length = 12) : ∀ L ∈ stage Ls i, L.length = 12 := fun L hL => by
  unfold stage at hL
  rcases List.mem_append.1 hL with h' | h'
  · exact h L (sortB_mem Ls i hi L h')
  · exact h L (List.mem_of_mem_drop h')
end Go.Proofs.Ytppcpidlnpencaa
