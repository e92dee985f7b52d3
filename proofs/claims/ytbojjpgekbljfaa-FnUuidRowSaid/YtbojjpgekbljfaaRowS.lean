/-
  The plain law of a row of UUIDs of version 7.
-/
import Derived.Test.YtbojjpgekbljfaaRow7
import Derived.Test.YtbojjpgekbljfaaRising
namespace Go.Proofs.Ytbojjpgekbljfaa
open Go.RowKit
set_option linter.unusedVariables false
structure VS where
  lm : Nat
  ct : Nat
  sd : Bool
  ds : List UInt8
def VS.keep (s : VS) (ms : Nat) : Bool := s.sd && decide (ms ≤ s.lm) && decide (s.ct < 4095)
def VS.late (s : VS) (ms : Nat) : Bool := s.sd && decide (ms ≤ s.lm)
def VS.m (s : VS) (ms : Nat) : Nat := if s.late ms then (if s.ct < 4095 then s.lm else s.lm + 1) else ms
def VS.c (s : VS) (ms : Nat) : Nat := if s.late ms ∧ s.ct < 4095 then s.ct + 1 else numB (s.ds.take 2) % 2048
def VS.d (s : VS) (ms : Nat) : List UInt8 := if s.late ms ∧ s.ct < 4095 then s.ds else s.ds.drop 2
def VS.nxt (s : VS) (ms : Nat) : VS := ⟨s.m ms, s.c ms, true, (s.d ms).drop 8⟩
def VS.out (s : VS) (ms : Nat) : List UInt8 := v7B (s.m ms) (s.c ms) ((s.d ms).getD 0 0) (((s.d ms).drop 1).take 7)
theorem VS.step (s : VS) (ms : Nat) : V7Step ms s.lm s.ct s.sd true s.ds (s.m ms) (s.c ms) (s.d ms) := by
  unfold V7Step VS.m VS.c VS.d VS.late
  cases hs : s.sd
  · left; simp
  · by_cases h1 : ms ≤ s.lm
    · by_cases h2 : s.ct < 4095
      · right; right; simp [h1, h2]
      · right; left; simp [h1, h2]; omega
    · left; simp [h1]; omega
theorem VS.c_lt (s : VS) (ms : Nat) : s.c ms < 4096 := by
  unfold VS.c
  split
  · omega
  · have := Nat.mod_lt (numB (s.ds.take 2)) (show 0 < 2048 by omega)
    omega
theorem VS.m_le (s : VS) (ms b : Nat) (h1 : s.lm ≤ b) (h2 : ms ≤ b) : s.m ms ≤ b + 1 := by
  unfold VS.m
  split
  · split <;> omega
  · omega
theorem VS.d_len (s : VS) (ms : Nat) : s.ds.length - 2 ≤ (s.d ms).length ∧ (s.d ms).length ≤ s.ds.length := by
  unfold VS.d
  split <;> simp
theorem VS.up (s : VS) (ms : Nat) (h : s.sd = true) (hc : s.ct < 4096) : s.lm * 65536 + s.ct < s.m ms * 65536 + s.c ms := by
  have hm := Nat.mod_lt (numB (s.ds.take 2)) (show 0 < 2048 by omega)
  unfold VS.m VS.c VS.late
  rw [h]
  by_cases h1 : ms ≤ s.lm
  · by_cases h2 : s.ct < 4095
    · simp [h1, h2]
    · simp [h1, h2]; omega
  · simp [h1]; omega
def stN (ts : List Nat) (s0 : VS) : Nat → VS
  | 0 => s0
  | k + 1 => (stN ts s0 k).nxt (ts.getD k 0)
def rowS (ts : List Nat) (s0 : VS) (k : Nat) : List (List UInt8) := (List.range k).map fun i => (stN ts s0 i).out (ts.getD i 0)
theorem rowS_succ (ts : List Nat) (s0 : VS) (k : Nat) : rowS ts s0 (k + 1) = rowS ts s0 k ++ [(stN ts s0 k).out (ts.getD k 0)] := by
  unfold rowS
  rw [List.range_succ, List.map_append]
  rfl
theorem rowS_length (ts : List Nat) (s0 : VS) (k : Nat) : (rowS ts s0 k).length = k := by simp [rowS]
def s0 (ds : List UInt8) : VS := ⟨0, 0, false, ds⟩
theorem stN_ok (ts : List Nat) (ds : List UInt8) (b : Nat) (hb : ∀ j, ts.getD j 0 ≤ b) : ∀ k, (stN ts (s0 ds) k).lm ≤ b + k ∧ (stN ts (s0 ds) k).ct < 4096 ∧ ds.length - 10 * k ≤ (stN ts (s0 ds) k).ds.length ∧ (stN ts (s0 ds) k).ds.length ≤ ds.length
  | 0 => ⟨by simp [stN, s0], by simp [stN, s0], by simp [stN, s0], by simp [stN, s0]⟩
  | k + 1 => by
    obtain ⟨h1, h2, h3, h4⟩ := stN_ok ts ds b hb k
    have hm := VS.m_le (stN ts (s0 ds) k) (ts.getD k 0) (b + k) h1 (by have := hb k; omega)
    have hd := VS.d_len (stN ts (s0 ds) k) (ts.getD k 0)
    refine ⟨?_, VS.c_lt _ _, ?_, ?_⟩
    · show (stN ts (s0 ds) k).m _ ≤ _; omega
    · show _ ≤ (((stN ts (s0 ds) k).d _).drop 8).length
      rw [List.length_drop]; omega
    · show (((stN ts (s0 ds) k).d _).drop 8).length ≤ _
      rw [List.length_drop]; omega
theorem rowS_get (ts : List Nat) (s0 : VS) (n j : Nat) (L : List UInt8) (h : (rowS ts s0 n)[j]? = some L) : j < n ∧ L = (stN ts s0 j).out (ts.getD j 0) := by
  unfold rowS at h
  rw [List.getElem?_map] at h
  rcases Nat.lt_or_ge j n with hj | hj
  · rw [List.getElem?_range hj] at h
    exact ⟨hj, by simpa using h.symm⟩
  · rw [List.getElem?_eq_none (by simpa using hj)] at h
    cases h
theorem rowS_all (ts : List Nat) (ds : List UInt8) (b : Nat) (hb : ∀ j, ts.getD j 0 ≤ b) (n : Nat) (hn : n ≤ 12) (hd : 400 ≤ ds.length) : ∀ L ∈ rowS ts (s0 ds) n, L.length = 16 := by
  intro L hL
  obtain ⟨j, hj⟩ := List.getElem?_of_mem hL
  obtain ⟨h1, rfl⟩ := rowS_get ts (s0 ds) n j L hj
  obtain ⟨-, -, h3, -⟩ := stN_ok ts ds b hb j
  have hd' := VS.d_len (stN ts (s0 ds) j) (ts.getD j 0)
  have l1 : ((((stN ts (s0 ds) j).d (ts.getD j 0)).drop 1).take 7).length = 7 := by rw [List.length_take, List.length_drop]; omega
  unfold VS.out v7B
  simp only [List.length_cons, l1]
theorem rowS_ascend (ts : List Nat) (ds : List UInt8) (b : Nat) (hb : ∀ j, ts.getD j 0 ≤ b) (hb2 : b < 281474976700000) (n : Nat) (hn : n ≤ 12) (hd : 400 ≤ ds.length) : Ascend (rowS ts (s0 ds) n) := by
  intro j A B hA hB
  obtain ⟨j1, rfl⟩ := rowS_get ts (s0 ds) n j A hA
  obtain ⟨j2, rfl⟩ := rowS_get ts (s0 ds) n (j + 1) B hB
  obtain ⟨a1, a2, a3, a4⟩ := stN_ok ts ds b hb j
  obtain ⟨b1, b2, b3, b4⟩ := stN_ok ts ds b hb (j + 1)
  have hm := VS.m_le (stN ts (s0 ds) j) (ts.getD j 0) (b + j) a1 (by have := hb j; omega)
  have hm' := VS.m_le (stN ts (s0 ds) (j + 1)) (ts.getD (j + 1) 0) (b + (j + 1)) b1 (by have := hb (j + 1); omega)
  have d1 := VS.d_len (stN ts (s0 ds) j) (ts.getD j 0)
  have d2 := VS.d_len (stN ts (s0 ds) (j + 1)) (ts.getD (j + 1) 0)
  have up := VS.up (stN ts (s0 ds) (j + 1)) (ts.getD (j + 1) 0) rfl b2
  have l1 : ((((stN ts (s0 ds) j).d (ts.getD j 0)).drop 1).take 7).length = 7 := by rw [List.length_take, List.length_drop]; omega
  have l2 : ((((stN ts (s0 ds) (j + 1)).d (ts.getD (j + 1) 0)).drop 1).take 7).length = 7 := by rw [List.length_take, List.length_drop]; omega
  exact (v7_less _ _ _ _ _ _ _ _ (l1.trans l2.symm) (by omega) (by omega) (VS.c_lt _ _) (VS.c_lt _ _) up).1
end Go.Proofs.Ytbojjpgekbljfaa
