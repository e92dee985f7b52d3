/-
  The order of bytes is the order of the numbers that they are, and that of their texts.
-/
import Derived.Test.YtppcpidlnpencaaCmp
import Derived.Test.YtppcpidlnpencaaRound
namespace Go.Proofs.Ytppcpidlnpencaa
open Go.RowKit
set_option linter.unusedVariables false
theorem numB_cons (a : UInt8) : ∀ p : List UInt8, numB (a :: p) = a.toNat * 256 ^ p.length + numB p := by
  have gen : ∀ (p : List UInt8) (n : Nat), p.foldl (fun n x => n * 256 + x.toNat) n = n * 256 ^ p.length + p.foldl (fun n x => n * 256 + x.toNat) 0 := by
    intro p
    induction p with
    | nil => intro n; simp
    | cons b q ih =>
      intro n
      simp only [List.foldl_cons, List.length_cons]
      rw [ih (n * 256 + b.toNat), ih (0 * 256 + b.toNat), Nat.pow_succ, Nat.add_mul, Nat.mul_assoc, Nat.mul_comm 256, Nat.zero_mul, Nat.zero_add]
      omega
  intro p
  unfold numB
  rw [List.foldl_cons, gen p]
  simp
theorem numB_lt_all (p : List UInt8) : numB p < 256 ^ p.length := by
  have := numB_lt p p.length (Nat.le_refl _)
  rwa [List.take_length] at this
theorem cmpB_num : ∀ xs ys : List UInt8, xs.length = ys.length → (cmpB xs ys < 0 ↔ numB xs < numB ys) ∧ (0 < cmpB xs ys ↔ numB ys < numB xs)
  | [], [], _ => by simp [cmpB]
  | a :: p, b :: q, h => by
    have hl : p.length = q.length := by simpa using h
    have ih := cmpB_num p q hl
    have h1 := numB_lt_all p
    have h2 := numB_lt_all q
    rw [numB_cons, numB_cons, hl]
    rw [hl] at h1
    generalize 256 ^ q.length = M at *
    unfold cmpB
    by_cases e : a = b
    · subst e
      rw [if_pos rfl, ih.1, ih.2]
      omega
    · rw [if_neg e]
      have hne : a.toNat ≠ b.toNat := fun h => e (UInt8.toNat_inj.1 h)
      rcases Nat.lt_or_gt_of_ne hne with hlt | hgt
      · rw [if_pos hlt]
        have : a.toNat * M + M ≤ b.toNat * M := by rw [← Nat.succ_mul]; exact Nat.mul_le_mul_right _ hlt
        omega
      · rw [if_neg (by omega)]
        have : b.toNat * M + M ≤ a.toNat * M := by rw [← Nat.succ_mul]; exact Nat.mul_le_mul_right _ hgt
        omega
  | [], _ :: _, h => by simp at h
  | _ :: _, [], h => by simp at h
theorem dig32_lt : ∀ a b : Fin 32, (dig32 a.val < dig32 b.val) = decide (a.val < b.val) := by decide +kernel
theorem dig32_lt' (a b : Nat) (ha : a < 32) (hb : b < 32) : decide (dig32 a < dig32 b) = decide (a < b) := by
  have := dig32_lt ⟨a, ha⟩ ⟨b, hb⟩
  simpa using this
theorem dig32_eq' (a b : Nat) (ha : a < 32) (hb : b < 32) : (dig32 a == dig32 b) = decide (a = b) := by
  rw [Bool.eq_iff_iff]
  simp only [beq_iff_eq, decide_eq_true_eq]
  exact ⟨fun h => by rw [← decN_dig a ha, h, decN_dig b hb], fun h => by rw [h]⟩
theorem bytesLess_digs (U V : Nat) : ∀ k, Op.bytesLess (digsN 32 dig32 U k) (digsN 32 dig32 V k) = decide (U % 32 ^ k < V % 32 ^ k)
  | 0 => by simp [digsN, Op.bytesLess, Nat.mod_one]
  | k + 1 => by
    rw [digsN, digsN, Op.bytesLess, bytesLess_digs U V k]
    have hU : U / 32 ^ k % 32 < 32 := Nat.mod_lt _ (by omega)
    have hV : V / 32 ^ k % 32 < 32 := Nat.mod_lt _ (by omega)
    rw [dig32_lt' _ _ hU hV, dig32_eq' _ _ hU hV]
    have eU : U % 32 ^ (k + 1) = U / 32 ^ k % 32 * 32 ^ k + U % 32 ^ k := by
      rw [Nat.pow_succ, Nat.mod_mul, Nat.mul_comm, Nat.add_comm]
    have eV : V % 32 ^ (k + 1) = V / 32 ^ k % 32 * 32 ^ k + V % 32 ^ k := by
      rw [Nat.pow_succ, Nat.mod_mul, Nat.mul_comm, Nat.add_comm]
    have lU : U % 32 ^ k < 32 ^ k := Nat.mod_lt _ (Nat.pow_pos (by omega))
    have lV : V % 32 ^ k < 32 ^ k := Nat.mod_lt _ (Nat.pow_pos (by omega))
    rw [eU, eV]
    generalize U / 32 ^ k % 32 = a at *
    generalize V / 32 ^ k % 32 = b at *
    generalize U % 32 ^ k = c at *
    generalize V % 32 ^ k = d at *
    generalize 32 ^ k = M at *
    rw [Bool.eq_iff_iff]
    simp only [Bool.or_eq_true, Bool.and_eq_true, decide_eq_true_eq]
    rcases Nat.lt_trichotomy a b with h | h | h
    · have : a * M + M ≤ b * M := by rw [← Nat.succ_mul]; exact Nat.mul_le_mul_right _ h
      constructor
      · intro _; omega
      · intro _; exact .inl h
    · subst h
      constructor
      · rintro (h | ⟨_, h⟩)
        · omega
        · omega
      · intro h; exact .inr ⟨rfl, by omega⟩
    · have : b * M + M ≤ a * M := by rw [← Nat.succ_mul]; exact Nat.mul_le_mul_right _ h
      constructor
      · rintro (h' | ⟨h', _⟩)
        · omega
        · omega
      · intro _; omega
theorem encB_digs (bs : List UInt8) (h : bs.length = 12) : encB bs = digsN 32 dig32 (numB bs * 16) 20 := by
  obtain ⟨b0, b1, b2, b3, b4, b5, b6, b7, b8, b9, b10, b11, rfl⟩ := len12 bs h
  exact encL_digs b0 b1 b2 b3 b4 b5 b6 b7 b8 b9 b10 b11
theorem less_enc (xs ys : List UInt8) (h1 : xs.length = 12) (h2 : ys.length = 12) : Op.bytesLess (encB xs) (encB ys) = decide (cmpB xs ys < 0) := by
  have a1 := numB_lt_all xs
  have a2 := numB_lt_all ys
  rw [h1] at a1
  rw [h2] at a2
  have e := (cmpB_num xs ys (by rw [h1, h2])).1
  rw [encB_digs xs h1, encB_digs ys h2, bytesLess_digs, Nat.mod_eq_of_lt (by omega), Nat.mod_eq_of_lt (by omega), Bool.eq_iff_iff, decide_eq_true_eq, decide_eq_true_eq, e]
  omega
theorem cmpB_neg : ∀ xs ys : List UInt8, cmpB ys xs = -cmpB xs ys
  | [], [] => rfl
  | a :: p, b :: q => by
    unfold cmpB
    by_cases e : a = b
    · subst e; rw [if_pos rfl, if_pos rfl, cmpB_neg p q]
    · rw [if_neg e, if_neg (Ne.symm e)]
      have hne : a.toNat ≠ b.toNat := fun h => e (UInt8.toNat_inj.1 h)
      rcases Nat.lt_or_gt_of_ne hne with hlt | hgt
      · rw [if_pos hlt, if_neg (by omega)]; rfl
      · rw [if_pos hgt, if_neg (by omega)]
  | [], _ :: _ => rfl
  | _ :: _, [] => rfl
theorem cmpB_range : ∀ xs ys : List UInt8, cmpB xs ys = -1 ∨ cmpB xs ys = 0 ∨ cmpB xs ys = 1
  | [], [] => .inr (.inl rfl)
  | a :: p, b :: q => by
    unfold cmpB
    by_cases e : a = b
    · rw [if_pos e]; exact cmpB_range p q
    · rw [if_neg e]
      split
      · exact .inl rfl
      · exact .inr (.inr rfl)
  | [], _ :: _ => .inr (.inl rfl)
  | _ :: _, [] => .inr (.inl rfl)
end Go.Proofs.Ytppcpidlnpencaa
