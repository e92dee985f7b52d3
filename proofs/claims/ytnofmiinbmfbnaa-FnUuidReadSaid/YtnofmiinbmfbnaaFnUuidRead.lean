/-
  The walk of FnUuidRead.
-/
import Derived.Test.YtnofmiinbmfbnaaSpecUR
import Derived.Test.YtnofmiinbmfbnaaCmp
import Derived.Test.YtnofmiinbmfbnaaRow
namespace Go.Proofs.Ytnofmiinbmfbnaa
open Go.RowKit
set_option linter.unusedVariables false
theorem decPos_first (pos : Nat → Nat) (l : List UInt8) (h0 : pos 0 = 0) (h : hexN (l.getD 0 0) = 255) : decPos pos l = none :=
  decPos_none pos l 0 (by omega) (by unfold okAt; rw [h0, h]; rfl)
theorem plainO_bad (l : List UInt8) (h : hexN (l.getD 0 0) = 255) : plainO l = none := by
  unfold plainO
  split
  · unfold plain36
    split
    · exact decPos_first posN l rfl h
    · rfl
  · split
    · exact decPos_first (fun i => 2 * i) l rfl h
    · rfl
theorem plainO_len (l : List UInt8) (h36 : l.length ≠ 36) (h32 : l.length ≠ 32) : plainO l = none := by
  unfold plainO
  rw [if_neg h36, if_neg h32]
theorem decPos_len (pos : Nat → Nat) (l out : List UInt8) (h : decPos pos l = some out) : out.length = 16 := by
  unfold decPos at h
  split at h
  · injection h with h; rw [← h, outP_length]
  · cases h
theorem plainO_out (l out : List UInt8) (h : plainO l = some out) : out.length = 16 := by
  unfold plainO at h
  split at h
  · unfold plain36 at h
    split at h
    · exact decPos_len _ _ _ h
    · cases h
  · split at h
    · exact decPos_len _ _ _ h
    · cases h
theorem specR_out (l out : List UInt8) (h : specR l = some out) : out.length = 16 := by
  unfold specR at h
  split at h
  · exact plainO_out _ _ h
  · split at h <;> exact plainO_out _ _ h
theorem urn_first (l : List UInt8) (h : l.take 9 = urn9) : l.getD 0 0 = 117 := by
  have := congrArg (fun k => k.getD 0 0) h
  simpa [urn9, List.getD] using this
/-- Where it is told, both read alike. -/
theorem read_law (l : List UInt8) (ht : specT l = true) : specR l = implO l := by
  by_cases hA : 9 < l.length ∧ (l.take 9).map lowC = urn9
  · have hu : l.take 9 = urn9 := by
      unfold specT at ht
      rw [if_pos hA] at ht
      exact of_decide_eq_true ht
    have h0 := urn_first l hu
    have hb : hexN (l.getD 0 0) = 255 := by rw [h0]; rfl
    unfold specR implO
    rw [if_pos hA]
    by_cases h1 : l.length = 32 ∨ l.length = 36
    · rw [if_pos h1, plainO_bad l hb, plainO_len _ (by simp; omega) (by simp; omega)]
    · rw [if_neg h1]
      by_cases h2 : l.length = 34 ∨ l.length = 38
      · rw [if_pos h2, if_neg (by rw [h0]; intro h; cases h.1), plainO_len _ (by simp; omega) (by simp; omega)]
      · rw [if_neg h2]
        by_cases h3 : l.length = 41 ∨ l.length = 45
        · rw [if_pos h3, if_pos hu]
        · rw [if_neg h3, plainO_len _ (by simp; omega) (by simp; omega)]
  · have hnu : ∀ h : 9 < l.length, l.take 9 ≠ urn9 := fun h hu => hA ⟨h, by rw [hu]; decide⟩
    unfold specR
    rw [if_neg hA]
    by_cases hB : 2 < l.length ∧ l.getD 0 0 = 123 ∧ l.getD (l.length - 1) 0 = 125
    · rw [if_pos hB]
      have hb : hexN (l.getD 0 0) = 255 := by rw [hB.2.1]; rfl
      unfold implO
      by_cases h1 : l.length = 32 ∨ l.length = 36
      · rw [if_pos h1, plainO_bad l hb, plainO_len _ (by simp; omega) (by simp; omega)]
      · rw [if_neg h1]
        by_cases h2 : l.length = 34 ∨ l.length = 38
        · rw [if_pos h2, if_pos hB.2]
        · rw [if_neg h2, plainO_len _ (by simp; omega) (by simp; omega)]
          by_cases h3 : l.length = 41 ∨ l.length = 45
          · rw [if_pos h3, if_neg (fun hu => by have := urn_first l hu; rw [hB.2.1] at this; cases this)]
          · rw [if_neg h3]
    · rw [if_neg hB]
      unfold implO
      by_cases h1 : l.length = 32 ∨ l.length = 36
      · rw [if_pos h1]
      · rw [if_neg h1, plainO_len l (by omega) (by omega)]
        by_cases h2 : l.length = 34 ∨ l.length = 38
        · rw [if_pos h2, if_neg (fun h => hB ⟨by omega, h⟩)]
        · rw [if_neg h2]
          by_cases h3 : l.length = 41 ∨ l.length = 45
          · rw [if_pos h3, if_neg (hnu (by omega))]
          · rw [if_neg h3]
theorem specRead_any (S : ByteArray) (n : Nat) (hn : S.size = n) (hm : n ≤ 100) (w : World) :
    Calls Try.prog 20 #[.string S] w (SRPost (specR S.data.toList) (specT S.data.toList) w) := by
  have hl : S.data.toList.length = n := by rw [← hn]; simp
  unfold specR specT
  rw [hl]
  by_cases hA : 9 < n ∧ (S.data.toList.take 9).map lowC = urn9
  · rw [if_pos hA, if_pos hA]
    exact specA S n hn hA.1 (by omega) hA.2 w
  · rw [if_neg hA, if_neg hA]
    rcases Nat.eq_zero_or_pos n with h0 | h0
    · subst h0
      rw [if_neg (by omega)]
      have hp : plainO S.data.toList = none := plainO_len _ (by omega) (by omega)
      rw [hp]
      exact specE S hn w
    · obtain ⟨m, rfl⟩ : ∃ m, n = m + 1 := ⟨n - 1, by omega⟩
      rw [Nat.add_sub_cancel, show m + 1 - 2 = m - 1 by omega]
      by_cases hB : 2 < m + 1 ∧ S.data.toList.getD 0 0 = 123 ∧ S.data.toList.getD m 0 = 125
      · rw [if_pos hB]
        by_cases h9 : 9 < m + 1
        · exact specBL S m hn h9 (by omega) (fun h => hA ⟨h9, h⟩) w (by omega) hB.2.1 hB.2.2
        · exact specBS S m hn (by omega) (by omega) w (by omega) hB.2.1 hB.2.2
      · rw [if_neg hB]
        have hB' : ¬ (2 ≤ m ∧ S.data.toList.getD 0 0 = 123 ∧ S.data.toList.getD m 0 = 125) := fun h => hB ⟨by omega, h.2⟩
        by_cases h9 : 9 < m + 1
        · exact specCL S m hn h9 (by omega) (fun h => hA ⟨h9, h⟩) w hB'
        · exact specCS S m hn (by omega) (by omega) w hB'
set_option maxRecDepth 100000 in
set_option maxHeartbeats 400000 in
theorem uread_small (S : ByteArray) (n : Nat) (hn : S.size = n) (hm : n ≤ 100) (w : World) :
    Calls Try.prog 7 #[.string S] w fun e w' => e = .returned (.bool true) ∧ Below w.heap.size w w' := by
  have SX := Lib.hid (specRead_any S n hn hm w)
  have IX := Lib.hid (fun w => uuidRead_any S w)
  have LAW := Lib.hid (read_law S.data.toList)
  obtain ⟨R, hR⟩ : ∃ R, R = specR S.data.toList := ⟨_, rfl⟩
  obtain ⟨t, ht⟩ : ∃ t, t = specT S.data.toList := ⟨_, rfl⟩
  obtain ⟨J, hJ⟩ : ∃ J, J = implO S.data.toList := ⟨_, rfl⟩
  have LR := Lib.hid (fun out => specR_out S.data.toList out)
  rw [← hR] at LR
  rw [← hR, ← ht] at SX LAW
  rw [← hJ] at IX LAW
  have d1 : decide ((2147483647 : Int) < (n : Int)) = false := decide_eq_false (by omega)
  have d2 : decide ((100 : Int) < (n : Int)) = false := decide_eq_false (by omega)
  clear hR ht hJ hm
  go_enter Try.func7, Try.ntmps7
  go_wp2_with fail
  refine SX.out.mono ?_
  intro e w1 h1
  cases t with
  | false =>
    obtain ⟨ok, v, rfl, b1⟩ : ∃ ok v, e = .returned (.tuple #[v, .bool ok, .bool false]) ∧ Below w.heap.size w w1 := by
      cases R with
      | some out => obtain ⟨⟨v, h2, -⟩, h3⟩ := h1.1 out rfl; exact ⟨true, v, h2, h3⟩
      | none => obtain ⟨⟨v, h2⟩, h3⟩ := h1.2 rfl; exact ⟨false, v, h2, h3⟩
    have B1 := Lib.hid b1
    clear h1 b1
    go_wp2_with fail
    refine (IX.out w1).mono ?_
    intro e w2 h2
    obtain ⟨ok2, v2, rfl, b2⟩ : ∃ ok v, e = .returned (.tuple #[v, .bool ok]) ∧ Below w1.heap.size w1 w2 := by
      cases J with
      | some out => obtain ⟨⟨v, h3, -⟩, -, h4⟩ := h2.1 out rfl; exact ⟨true, v, h3, h4⟩
      | none => obtain ⟨h3, h4⟩ := h2.2 rfl; exact ⟨false, _, h3, h4⟩
    have B2 := Lib.hid (B1.out.trans (b2.mono B1.out.size))
    clear h2 b2
    go_wp2
    go_ret
    exact ⟨rfl, B2.out⟩
  | true =>
    have EJ := LAW.out rfl
    subst EJ
    cases R with
    | none =>
      obtain ⟨⟨v, rfl⟩, b1⟩ := h1.2 rfl
      have B1 := Lib.hid b1
      clear h1 b1
      go_wp2_with fail
      refine (IX.out w1).mono ?_
      intro e w2 h2
      obtain ⟨rfl, b2⟩ := h2.2 rfl
      have B2 := Lib.hid (B1.out.trans (b2.mono B1.out.size))
      clear h2 b2
      go_wp2
      go_ret
      exact ⟨rfl, B2.out⟩
    | some out =>
      obtain ⟨⟨v, rfl, ⟨g1, c1, hv1, hg1, y1⟩⟩, b1⟩ := h1.1 out rfl
      rw [LR.out out rfl] at hv1
      subst hv1
      have B1 := Lib.hid b1
      have Y1 := Lib.hid y1
      clear h1 b1 hg1 y1
      go_wp2_with fail
      refine (IX.out w1).mono ?_
      intro e w2 h2
      obtain ⟨⟨v2, rfl, ⟨g2, c2, hv2, hg2, y2⟩⟩, l2, b2⟩ := h2.1 out rfl
      rw [l2] at hv2
      subst hv2
      have B2 := Lib.hid (B1.out.trans (b2.mono B1.out.size))
      have Y2 := Lib.hid y2
      have Y12 := Lib.hid (Y1.out.below b2 (Nat.le_refl _))
      have L2 := Lib.hid l2
      clear h2 b2 hg2 y2 l2
      go_wp2_with fail
      refine (same_any (some ⟨g2, 0, none⟩) (some ⟨g1, 0, none⟩) 16 16 c2 c1 out out L2.out L2.out (by omega) _ Y2.out Y12.out).mono ?_
      rw [sameB_self]
      intro e w3 h3
      obtain ⟨rfl, b3⟩ := h3.below
      have B3 := Lib.hid (B2.out.trans (b3.mono B2.out.size))
      clear h3 b3
      go_wp2
      go_ret
      exact ⟨rfl, B3.out⟩
set_option maxRecDepth 100000 in
theorem uread_long (s : ByteArray) (h100 : 100 < s.size) (w : World) :
    Calls Try.prog 7 #[.string s] w fun e w' => e = .returned (.bool true) ∧ Below w.heap.size w w' := by
  obtain ⟨n, hn⟩ : ∃ n, n = s.size := ⟨_, rfl⟩
  have hn' : s.size = n := hn.symm
  have t0 : (100 : Int) < (n : Int) := by omega
  clear hn h100
  by_cases h : (2147483647 : Int) < (n : Int)
  · go_enter Try.func7, Try.ntmps7
    go_wp2
    go_ret
    exact ⟨rfl, Below.refl _ _⟩
  · go_enter Try.func7, Try.ntmps7
    go_wp2
    go_ret
    exact ⟨rfl, Below.refl _ _⟩
theorem walk_FnUuidRead (a0 : ByteArray) (w : World) (w0 : a0.size ≤ maxLen) :
    Calls Try.prog 7 #[.string a0] w fun e w' => e = .returned (.bool true) ∧ Below w.heap.size w w' := by
  rcases Nat.lt_or_ge 100 a0.size with h | h
  · exact uread_long a0 h w
  · exact uread_small a0 _ rfl h w
end Go.Proofs.Ytnofmiinbmfbnaa
