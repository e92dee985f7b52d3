/-
  pdqsort of at most twelve, bits.Len of a small number, sort.Sort, and xid's Sort.
-/
import Derived.Test.YtppcpidlnpencaaSort3
namespace Go.Proofs.Ytppcpidlnpencaa
open Go.RowKit
set_option linter.unusedVariables false
set_option maxRecDepth 100000 in
set_option maxHeartbeats 2000000 in
theorem pdq_any (g n c : Nat) (d : List (List UInt8)) (rest : List Value) (hl : d.length = n) (h12 : ∀ L ∈ d, L.length = 12) (hn : 1 ≤ n) (hn' : n ≤ 12) (lim : Int) (w : World) (hg : IDs w g d rest) :
    Calls Try.prog 61 #[.iface 93 (.slice (some ⟨g, 0, none⟩) n c), .int .i64 0, .int .i64 (n : Int), .int .i64 lim] w fun e w' => e = .returned (.tuple #[]) ∧ IDs w' g (sortB d) rest ∧ w.grownBy w' (some g) := by
  have HI := Lib.hid (fun wx (h : IDs wx g d rest) => insertion_any g n c d rest hl h12 hn (by omega) wx h)
  have q1 : (n : Int) ≤ 12 := by omega
  have q2 : (0 : Int) ≤ (n : Int) := by omega
  have HG := Lib.hid hg
  clear hl h12 hg
  go_enter Try.func61, Try.ntmps61
  go_wp2
  refine wp_loop_rounds 1 ?_
  rw [rounds_succ]
  go_wp2_with (go_at_call 64; refine (HI.out _ HG.out).mono ?_; rintro e w3 ⟨rfl, i3, g3⟩; have I3 := Lib.hid i3; have G3 := Lib.hid g3; clear i3 g3)
  (try simp only [Exit.inBlock, Exit.then])
  refine bodyPost_ret (results_none rfl _ _ _) rfl ?_
  exact ⟨rfl, I3.out, G3.out⟩
set_option maxRecDepth 100000 in
set_option maxHeartbeats 4000000 in
theorem bitsLen64_any (x : Int) (h0 : 0 ≤ x) (h1 : x ≤ 255) (w : World) :
    Calls Try.prog 63 #[.int .u64 x] w fun e w' => (∃ k : Int, e = .returned (.int .i64 k)) ∧ w' = w := by
  go_enter Try.func63, Try.ntmps63
  go_wp2
  all_goals (go_ret; exact ⟨⟨_, rfl⟩, rfl⟩)
set_option maxRecDepth 100000 in
theorem bitsLen_any (x : Int) (h0 : 0 ≤ x) (h1 : x ≤ 255) (w : World) :
    Calls Try.prog 60 #[.int .u64 x] w fun e w' => (∃ k : Int, e = .returned (.int .i64 k)) ∧ w' = w := by
  go_enter Try.func60, Try.ntmps60
  go_wp2_with (go_at_call 63; refine (bitsLen64_any x h0 h1 _).mono ?_; rintro e w' ⟨⟨k, rfl⟩, rfl⟩)
  go_ret
  exact ⟨⟨_, rfl⟩, rfl⟩
theorem len_method (A : Option Addr) (n c : Nat) (w : World) : (method 245 93 (.slice A n c) "Len").run Try.prog w = .ok (98, .slice A n c) w := by kernel_rfl
set_option maxRecDepth 100000 in
theorem sort_any (g n c : Nat) (d : List (List UInt8)) (rest : List Value) (hl : d.length = n) (h12 : ∀ L ∈ d, L.length = 12) (hn : 2 ≤ n) (hn' : n ≤ 12) (w : World) (hg : IDs w g d rest) :
    Calls Try.prog 56 #[.iface 93 (.slice (some ⟨g, 0, none⟩) n c)] w fun e w' => e = .returned (.tuple #[]) ∧ IDs w' g (sortB d) rest ∧ w.grownBy w' (some g) := by
  have HP := Lib.hid (fun lim wx (h : IDs wx g d rest) => pdq_any g n c d rest hl h12 (by omega) hn' lim wx h)
  have hml := len_method (some ⟨g, 0, none⟩) n c
  have q1 : (n : Int) ≤ 12 := by omega
  have q2 : (2 : Int) ≤ (n : Int) := by omega
  have HG := Lib.hid hg
  have HB := Lib.hid (fun w => bitsLen_any (n : Int) (by omega) (by omega) w)
  have q3 : IntKind.u64.wrap (n : Int) = (n : Int) := by simp [IntKind.wrap, IntKind.bits, IntKind.signed]; omega
  clear hl h12 hg
  go_enter Try.func56, Try.ntmps56
  go_wp2_with (first
    | (go_at_call 98; refine (sorter_len (some ⟨g, 0, none⟩) n c _).mono ?_; rintro e w3 ⟨rfl, rfl⟩)
    | (go_at_call 60; refine (HB.out _).mono ?_; rintro e w3 ⟨⟨k, rfl⟩, rfl⟩)
    | (go_at_call 61; refine (HP.out _ _ HG.out).mono ?_; rintro e w3 ⟨rfl, i3, g3⟩; have I3 := Lib.hid i3; have G3 := Lib.hid g3; clear i3 g3))
  refine bodyPost_end (results_none rfl _ _ _) rfl ?_
  exact ⟨rfl, I3.out, G3.out⟩
set_option maxRecDepth 100000 in
theorem sort_tiny (A : Option Addr) (n c : Nat) (hn : n ≤ 1) (w : World) :
    Calls Try.prog 56 #[.iface 93 (.slice A n c)] w fun e w' => e = .returned (.tuple #[]) ∧ w' = w := by
  have hml := len_method A n c
  have q1 : (n : Int) ≤ 1 := by omega
  go_enter Try.func56, Try.ntmps56
  go_wp2_with (go_at_call 98; refine (sorter_len A n c _).mono ?_; rintro e w3 ⟨rfl, rfl⟩)
  refine bodyPost_ret (results_none rfl _ _ _) rfl ?_
  exact ⟨rfl, rfl⟩
theorem sortB_small (Ls : List (List UInt8)) (h : Ls.length ≤ 1) : sortB Ls = Ls := by
  match Ls, h with
  | [], _ => rfl
  | [x], _ => rfl
  | _ :: _ :: _, h => simp at h
theorem sortB_len (Ls : List (List UInt8)) : (sortB Ls).length = Ls.length := by
  have := sortB_length Ls Ls.length (Nat.le_refl _)
  rwa [List.take_length] at this
theorem sortB_12 {Ls : List (List UInt8)} (h : ∀ L ∈ Ls, L.length = 12) : ∀ L ∈ sortB Ls, L.length = 12 := fun L hL => by
  have := sortB_mem Ls Ls.length (Nat.le_refl _)
  rw [List.take_length] at this
  exact h L (this L hL)
set_option maxRecDepth 100000 in
theorem idsSort_any (base : Nat) (A : Option Addr) (n c : Nat) (Ls : List (List UInt8)) (hl : Ls.length = n) (hn : n ≤ 12) (h12 : ∀ L ∈ Ls, L.length = 12) (w : World) (ho : w.ownsRow base 54 12 (.slice A n c) n (Ls.flatten.map B8)) (hbase : base ≤ w.heap.size) :
    Calls Try.prog 47 #[.slice A n c] w fun e w' => e = .returned (.tuple #[]) ∧ w'.ownsRow base 54 12 (.slice A n c) n ((sortB Ls).flatten.map B8) ∧ Below base w w' := by
  rcases Nat.lt_or_ge 1 n with h2 | h2
  · rcases ho.2 with ⟨-, h0⟩ | ⟨g, cap, cur, hv, hb, hg, k1, k2, k3, k4⟩
    · omega
    · injection hv with hA hn' hc
      subst hA
      subst hc
      obtain ⟨rest, hr⟩ : ∃ rest, rest = cur.toList.drop (n * 12) := ⟨_, rfl⟩
      have hat : IDs w g Ls rest := by
        unfold IDs At flat
        rw [hg, ← k4, hr, List.take_append_drop]
      have hrl : rest.length = c * 12 - n * 12 := by rw [hr, List.length_drop, Array.length_toList, k3]
      have hle : n * 12 ≤ c * 12 := Nat.mul_le_mul_right _ k1
      have HS := Lib.hid (fun wx (h : IDs wx g Ls rest) => sort_any g n c Ls rest hl h12 (by omega) hn wx h)
      have HA := Lib.hid hat
      have fin : ∀ w', IDs w' g (sortB Ls) rest → w.grownBy w' (some g) → w'.ownsRow base 54 12 (.slice (some ⟨g, 0, none⟩) n c) n ((sortB Ls).flatten.map B8) ∧ Below base w w' := fun w' i' g' => by
        have hf := flat_len (sortB Ls) rest (sortB_12 h12)
        have hfl : ((sortB Ls).flatten.map B8).length = n * 12 := by
          have := flat_len (sortB Ls) [] (sortB_12 h12)
          rw [sortB_len, hl] at this
          simpa [flat] using this
        rw [sortB_len, hl] at hf
        refine ⟨⟨hfl, .inr ⟨g, c, (flat (sortB Ls) rest).toArray, rfl, hb, i', k1, k2, ?_, ?_⟩⟩, (Below.refl _ _).grown g' hbase (by rintro k hk; injection hk with hk; omega)⟩
        · rw [List.size_toArray, hf]; omega
        · show (flat (sortB Ls) rest).take (n * 12) = _
          unfold flat
          rw [List.take_append_of_le_length (by omega), List.take_of_length_le (by omega)]
      have FIN := Lib.hid fin
      clear ho hg k4 hr hat fin
      go_enter Try.func47, Try.ntmps47
      go_wp2_with (go_at_call 56; refine (HS.out _ HA.out).mono ?_; rintro e w3 ⟨rfl, i3, g3⟩; have I3 := Lib.hid i3; have G3 := Lib.hid g3; clear i3 g3)
      refine bodyPost_end (results_none rfl _ _ _) rfl ?_
      exact ⟨rfl, FIN.out _ I3.out G3.out⟩
  · rw [sortB_small Ls (by omega)]
    have HO := Lib.hid ho
    clear ho
    go_enter Try.func47, Try.ntmps47
    go_wp2_with (go_at_call 56; refine (sort_tiny A n c h2 _).mono ?_; rintro e w3 ⟨rfl, rfl⟩)
    refine bodyPost_end (results_none rfl _ _ _) rfl ?_
    exact ⟨rfl, HO.out, Below.refl _ _⟩
end Go.Proofs.Ytppcpidlnpencaa
