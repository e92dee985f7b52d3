/-
  The order of UUIDs of versions 6 and 7.
-/
import Derived.Test.YtbojjpgekbljfaaAtLaw
import Derived.Test.YtbojjpgekbljfaaCmp
namespace Go.Proofs.Ytbojjpgekbljfaa
open Go.RowKit
set_option linter.unusedVariables false
theorem numB_cons (a : UInt8) : ∀ p : List UInt8, numB (a :: p) = a.toNat * 256 ^ p.length + numB p := by
  have gen : ∀ (p : List UInt8) (n : Nat), p.foldl (fun n x => n * 256 + x.toNat) n = n * 256 ^ p.length + p.foldl (fun n x => n * 256 + x.toNat) 0 := by
    intro p
    induction p with
    | nil => intro n; simp
    | cons b q ih =>
      intro n
      simp only [List.foldl_cons, List.length_cons]
      rw [ih (n * 256 + b.toNat), ih (0 * 256 + b.toNat), Nat.pow_succ, Nat.add_mul, Nat.mul_assoc, Nat.mul_comm 256, Nat.zero_mul, Nat.zero_add]
      omega
  intro p
  unfold numB
  rw [List.foldl_cons, gen p]
  simp
theorem numB_lt_all (p : List UInt8) : numB p < 256 ^ p.length := by
  have := numB_lt p p.length (Nat.le_refl _)
  rwa [List.take_length] at this
theorem cmpB_num : ∀ xs ys : List UInt8, xs.length = ys.length → (cmpB xs ys < 0 ↔ numB xs < numB ys) ∧ (0 < cmpB xs ys ↔ numB ys < numB xs)
  | [], [], _ => by simp [cmpB]
  | a :: p, b :: q, h => by
    have hl : p.length = q.length := by simpa using h
    have ih := cmpB_num p q hl
    have h1 := numB_lt_all p
    have h2 := numB_lt_all q
    rw [numB_cons, numB_cons, hl]
    rw [hl] at h1
    generalize 256 ^ q.length = M at *
    unfold cmpB
    by_cases e : a = b
    · subst e
      rw [if_pos rfl, ih.1, ih.2]
      omega
    · rw [if_neg e]
      have hne : a.toNat ≠ b.toNat := fun h => e (UInt8.toNat_inj.1 h)
      rcases Nat.lt_or_gt_of_ne hne with hlt | hgt
      · rw [if_pos hlt]
        have : a.toNat * M + M ≤ b.toNat * M := by rw [← Nat.succ_mul]; exact Nat.mul_le_mul_right _ hlt
        omega
      · rw [if_neg (by omega)]
        have : b.toNat * M + M ≤ a.toNat * M := by rw [← Nat.succ_mul]; exact Nat.mul_le_mul_right _ hgt
        omega
  | [], _ :: _, h => by simp at h
  | _ :: _, [], h => by simp at h
theorem numB_append (p s : List UInt8) : numB (p ++ s) = numB p * 256 ^ s.length + numB s := by
  induction p with
  | nil => simp [numB]
  | cons a p ih =>
    rw [List.cons_append, numB_cons, numB_cons, ih, List.length_append, Nat.pow_add, Nat.add_mul, Nat.mul_assoc]
    omega
theorem cmp_pre (p q s t : List UInt8) (hp : p.length = q.length) (hst : s.length = t.length) (h : numB p < numB q) : cmpB (p ++ s) (q ++ t) < 0 ∧ 0 < cmpB (q ++ t) (p ++ s) := by
  have e1 := cmpB_num (p ++ s) (q ++ t) (by simp [hp, hst])
  have e2 := cmpB_num (q ++ t) (p ++ s) (by simp [hp, hst])
  have l1 := numB_lt_all s
  have hn : numB (p ++ s) < numB (q ++ t) := by
    rw [numB_append, numB_append, hst]
    rw [hst] at l1
    have : numB p * 256 ^ t.length + 256 ^ t.length ≤ numB q * 256 ^ t.length := by rw [← Nat.succ_mul]; exact Nat.mul_le_mul_right _ h
    omega
  exact ⟨e1.1.2 hn, e2.2.2 hn⟩
def p6 (L M H : Nat) : List UInt8 := [UInt8.ofNat (L / 16777216), UInt8.ofNat (L / 65536), UInt8.ofNat (L / 256), UInt8.ofNat L, UInt8.ofNat (M / 256), UInt8.ofNat M, setVer (UInt8.ofNat (H / 256)) 6, UInt8.ofNat H]
def p7 (m c : Nat) : List UInt8 := [UInt8.ofNat (m / 1099511627776), UInt8.ofNat (m / 4294967296), UInt8.ofNat (m / 16777216), UInt8.ofNat (m / 65536), UInt8.ofNat (m / 256), UInt8.ofNat m, setVer (UInt8.ofNat (c / 256)) 7, UInt8.ofNat c]
theorem p6_num (L M H : Nat) (hL : L < 4294967296) (hM : M < 65536) (hH : H < 4096) : numB (p6 L M H) = L * 4294967296 + M * 65536 + H + 24576 := by
  have e : numB (p6 L M H) = ((numB [UInt8.ofNat (L / 16777216), UInt8.ofNat (L / 65536), UInt8.ofNat (L / 256), UInt8.ofNat L] * 256 + (UInt8.ofNat (M / 256)).toNat) * 256 + (UInt8.ofNat M).toNat) * 256 * 256 + (setVer (UInt8.ofNat (H / 256)) 6).toNat * 256 + (UInt8.ofNat H).toNat := by
    simp only [p6, numB, List.foldl]
    omega
  rw [e, nb4 L hL, ver6]
  simp only [UInt8.toNat_ofNat']
  omega
theorem p7_num (m c : Nat) (hm : m < 281474976710656) (hc : c < 4096) : numB (p7 m c) = m * 65536 + c + 28672 := by
  have e : numB (p7 m c) = ((numB [UInt8.ofNat (m / 1099511627776), UInt8.ofNat (m / 4294967296), UInt8.ofNat (m / 16777216), UInt8.ofNat (m / 65536)] * 256 + (UInt8.ofNat (m / 256)).toNat) * 256 + (UInt8.ofNat m).toNat) * 256 * 256 + (setVer (UInt8.ofNat (c / 256)) 7).toNat * 256 + (UInt8.ofNat c).toNat := by
    simp only [p7, numB, List.foldl]
    omega
  rw [e, nb7 m hm, ver7]
  simp only [UInt8.toNat_ofNat']
  omega
set_option maxRecDepth 10000 in
theorem v7_less (m c m' c' : Nat) (r r' : UInt8) (rt rt' : List UInt8) (hr : rt.length = rt'.length) (hm : m < 281474976710656) (hm' : m' < 281474976710656) (hc : c < 4096) (hc' : c' < 4096) (h : m * 65536 + c < m' * 65536 + c') :
    cmpB (v7B m c r rt) (v7B m' c' r' rt') < 0 ∧ 0 < cmpB (v7B m' c' r' rt') (v7B m c r rt) :=
  by
  have e1 : v7B m c r rt = p7 m c ++ (setVar r (varMask 1) (varBits 1) :: rt) := rfl
  have e2 : v7B m' c' r' rt' = p7 m' c' ++ (setVar r' (varMask 1) (varBits 1) :: rt') := rfl
  rw [e1, e2]
  have a : numB (p7 m c) < numB (p7 m' c') := by have a1 := p7_num m c hm hc; have a2 := p7_num m' c' hm' hc'; omega
  exact cmp_pre _ _ _ _ (by simp [p7]) (by simp [hr]) a
set_option maxRecDepth 10000 in
theorem v6_less (L M H L' M' H' : Nat) (r r' : UInt8) (rt rt' : List UInt8) (hr : rt.length = rt'.length) (hL : L < 4294967296) (hM : M < 65536) (hH : H < 4096) (hL' : L' < 4294967296) (hM' : M' < 65536) (hH' : H' < 4096) (h : L * 4294967296 + M * 65536 + H < L' * 4294967296 + M' * 65536 + H') :
    cmpB (v6B L M H r rt) (v6B L' M' H' r' rt') < 0 ∧ 0 < cmpB (v6B L' M' H' r' rt') (v6B L M H r rt) :=
  by
  have e1 : v6B L M H r rt = p6 L M H ++ (setVar r (varMask 1) (varBits 1) :: rt) := rfl
  have e2 : v6B L' M' H' r' rt' = p6 L' M' H' ++ (setVar r' (varMask 1) (varBits 1) :: rt') := rfl
  rw [e1, e2]
  have a : numB (p6 L M H) < numB (p6 L' M' H') := by have a1 := p6_num L M H hL hM hH; have a2 := p6_num L' M' H' hL' hM' hH'; omega
  exact cmp_pre _ _ _ _ (by simp [p6]) (by simp [hr]) a
theorem ord6 (s n s' n' : Int) (node ds : List UInt8) (h1 : 0 ≤ s) (h2 : s < 4102444800) (h3 : 0 ≤ n) (h4 : n < 1000000000) (h1' : 0 ≤ s') (h2' : s' < 4102444800) (h3' : 0 ≤ n') (h4' : n' < 1000000000) (h : atV 6 s n < atV 6 s' n') :
    cmpB (atB 6 s n node ds) (atB 6 s' n' node ds) < 0 ∧ 0 < cmpB (atB 6 s' n' node ds) (atB 6 s n node ds) := by
  have ht : (tks s n : Int) = 122192928000000000 + (s * 1000000000 + n) / 100 := by unfold tks; omega
  have ht' : (tks s' n' : Int) = 122192928000000000 + (s' * 1000000000 + n') / 100 := by unfold tks; omega
  have hlt : tks s n < tks s' n' := by
    have h : s * 10000000 + n / 100 + 122192928000000000 < s' * 10000000 + n' / 100 + 122192928000000000 := h
    omega
  have key : ∀ T T' : Nat, T < T' → T / 268435456 * 4294967296 + T / 4096 % 65536 * 65536 + T % 4096 < T' / 268435456 * 4294967296 + T' / 4096 % 65536 * 65536 + T' % 4096 := by
    intro T T' h
    have q : T / 268435456 = T / 4096 / 65536 := by rw [Nat.div_div_eq_div_mul]
    have q' : T' / 268435456 = T' / 4096 / 65536 := by rw [Nat.div_div_eq_div_mul]
    rw [q, q']
    have a := Nat.div_add_mod (T / 4096) 65536
    have a' := Nat.div_add_mod (T' / 4096) 65536
    have b := Nat.div_add_mod T 4096
    have b' := Nat.div_add_mod T' 4096
    have c := Nat.mod_lt T (show 0 < 4096 by omega)
    have c' := Nat.mod_lt T' (show 0 < 4096 by omega)
    generalize T / 4096 / 65536 = L at *
    generalize T' / 4096 / 65536 = L' at *
    generalize T / 4096 % 65536 = M at *
    generalize T' / 4096 % 65536 = M' at *
    generalize T / 4096 = Q at *
    generalize T' / 4096 = Q' at *
    generalize T % 4096 = H at *
    generalize T' % 4096 = H' at *
    omega
  exact v6_less _ _ _ _ _ _ _ _ _ _ rfl (by omega) (by omega) (by omega) (by omega) (by omega) (by omega) (key _ _ hlt)
theorem ord7 (s n s' n' : Int) (node ds : List UInt8) (h1 : 0 ≤ s) (h2 : s < 4102444800) (h3 : 0 ≤ n) (h4 : n < 1000000000) (h1' : 0 ≤ s') (h2' : s' < 4102444800) (h3' : 0 ≤ n') (h4' : n' < 1000000000) (h : atV 7 s n < atV 7 s' n') :
    cmpB (atB 7 s n node ds) (atB 7 s' n' node ds) < 0 ∧ 0 < cmpB (atB 7 s' n' node ds) (atB 7 s n node ds) := by
  have ht : (mss s n : Int) = s * 1000 + n / 1000000 := by unfold mss; omega
  have ht' : (mss s' n' : Int) = s' * 1000 + n' / 1000000 := by unfold mss; omega
  have hlt : mss s n < mss s' n' := by
    have h : (s * 1000 + n / 1000000) * 10000 + 122192928000000000 < (s' * 1000 + n' / 1000000) * 10000 + 122192928000000000 := h
    omega
  have hc : numB (ds.take 2) % 2048 < 2048 := Nat.mod_lt _ (by omega)
  exact v7_less _ _ _ _ _ _ _ _ rfl (by omega) (by omega) (by omega) (by omega) (by omega)
end Go.Proofs.Ytbojjpgekbljfaa
