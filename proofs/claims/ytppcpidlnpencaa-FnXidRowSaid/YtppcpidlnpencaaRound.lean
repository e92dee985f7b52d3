/-
  An ID's text is read as the ID; a text that is read is the text of what it is read as.
-/
import Derived.Test.YtppcpidlnpencaaXidRead
import Derived.Test.YtppcpidlnpencaaTextI
namespace Go.Proofs.Ytppcpidlnpencaa
open Go.RowKit
set_option linter.unusedVariables false
theorem okDigit_dig (k : Nat) (h : k < 32) : okDigit (dig32 k) = true := by unfold okDigit; rw [decN_dig k h]; simp; omega
theorem lt0 (b0 : UInt8) : (b0.toNat / 8) < 32 := by
  have qb0 := b0.toNat_lt
  omega
theorem lt1 (b0 b1 : UInt8) : (b1.toNat / 64 + b0.toNat * 4 % 32) < 32 := by
  have qb0 := b0.toNat_lt
  have qb1 := b1.toNat_lt
  omega
theorem lt2 (b1 : UInt8) : (b1.toNat / 2 % 32) < 32 := by
  have qb1 := b1.toNat_lt
  omega
theorem lt3 (b1 b2 : UInt8) : (b2.toNat / 16 + b1.toNat * 16 % 32) < 32 := by
  have qb1 := b1.toNat_lt
  have qb2 := b2.toNat_lt
  omega
theorem lt4 (b2 b3 : UInt8) : (b3.toNat / 128 + b2.toNat * 2 % 32) < 32 := by
  have qb2 := b2.toNat_lt
  have qb3 := b3.toNat_lt
  omega
theorem lt5 (b3 : UInt8) : (b3.toNat / 4 % 32) < 32 := by
  have qb3 := b3.toNat_lt
  omega
theorem lt6 (b3 b4 : UInt8) : (b4.toNat / 32 + b3.toNat * 8 % 32) < 32 := by
  have qb3 := b3.toNat_lt
  have qb4 := b4.toNat_lt
  omega
theorem lt7 (b4 : UInt8) : (b4.toNat % 32) < 32 := by
  have qb4 := b4.toNat_lt
  omega
theorem lt8 (b5 : UInt8) : (b5.toNat / 8) < 32 := by
  have qb5 := b5.toNat_lt
  omega
theorem lt9 (b5 b6 : UInt8) : (b6.toNat / 64 + b5.toNat * 4 % 32) < 32 := by
  have qb5 := b5.toNat_lt
  have qb6 := b6.toNat_lt
  omega
theorem lt10 (b6 : UInt8) : (b6.toNat / 2 % 32) < 32 := by
  have qb6 := b6.toNat_lt
  omega
theorem lt11 (b6 b7 : UInt8) : (b7.toNat / 16 + b6.toNat * 16 % 32) < 32 := by
  have qb6 := b6.toNat_lt
  have qb7 := b7.toNat_lt
  omega
theorem lt12 (b7 b8 : UInt8) : (b8.toNat / 128 + b7.toNat * 2 % 32) < 32 := by
  have qb7 := b7.toNat_lt
  have qb8 := b8.toNat_lt
  omega
theorem lt13 (b8 : UInt8) : (b8.toNat / 4 % 32) < 32 := by
  have qb8 := b8.toNat_lt
  omega
theorem lt14 (b8 b9 : UInt8) : (b9.toNat / 32 + b8.toNat * 8 % 32) < 32 := by
  have qb8 := b8.toNat_lt
  have qb9 := b9.toNat_lt
  omega
theorem lt15 (b9 : UInt8) : (b9.toNat % 32) < 32 := by
  have qb9 := b9.toNat_lt
  omega
theorem lt16 (b10 : UInt8) : (b10.toNat / 8) < 32 := by
  have qb10 := b10.toNat_lt
  omega
theorem lt17 (b10 b11 : UInt8) : (b11.toNat / 64 + b10.toNat * 4 % 32) < 32 := by
  have qb10 := b10.toNat_lt
  have qb11 := b11.toNat_lt
  omega
theorem lt18 (b11 : UInt8) : (b11.toNat / 2 % 32) < 32 := by
  have qb11 := b11.toNat_lt
  omega
theorem lt19 (b11 : UInt8) : (b11.toNat * 16 % 32) < 32 := by
  have qb11 := b11.toNat_lt
  omega
theorem readOk_enc (bs : List UInt8) (h : bs.length = 12) : readOk (encB bs) = true := by
  obtain ⟨b0, b1, b2, b3, b4, b5, b6, b7, b8, b9, b10, b11, rfl⟩ := len12 bs h
  have h19 : decN ((encB [b0, b1, b2, b3, b4, b5, b6, b7, b8, b9, b10, b11]).getD 19 0) = b11.toNat * 16 % 32 := decN_dig _ (lt19 b11)
  have ha : (encB [b0, b1, b2, b3, b4, b5, b6, b7, b8, b9, b10, b11]).all okDigit = true := by
    simp only [encB, encL, List.all_cons, List.all_nil, okDigit_dig _ (lt0 b0), okDigit_dig _ (lt1 b0 b1), okDigit_dig _ (lt2 b1), okDigit_dig _ (lt3 b1 b2), okDigit_dig _ (lt4 b2 b3), okDigit_dig _ (lt5 b3), okDigit_dig _ (lt6 b3 b4), okDigit_dig _ (lt7 b4), okDigit_dig _ (lt8 b5), okDigit_dig _ (lt9 b5 b6), okDigit_dig _ (lt10 b6), okDigit_dig _ (lt11 b6 b7), okDigit_dig _ (lt12 b7 b8), okDigit_dig _ (lt13 b8), okDigit_dig _ (lt14 b8 b9), okDigit_dig _ (lt15 b9), okDigit_dig _ (lt16 b10), okDigit_dig _ (lt17 b10 b11), okDigit_dig _ (lt18 b11), okDigit_dig _ (lt19 b11), Bool.and_self]
  unfold readOk
  rw [h19, ha, encB_length _ rfl]
  simp
theorem readB_enc (bs : List UInt8) (h : bs.length = 12) : readB (encB bs) = bs := by
  obtain ⟨b0, b1, b2, b3, b4, b5, b6, b7, b8, b9, b10, b11, rfl⟩ := len12 bs h
  have h := decL_enc b0 b1 b2 b3 b4 b5 b6 b7 b8 b9 b10 b11
  simp only [encB, encL, readB, decN_dig _ (lt0 b0), decN_dig _ (lt1 b0 b1), decN_dig _ (lt2 b1), decN_dig _ (lt3 b1 b2), decN_dig _ (lt4 b2 b3), decN_dig _ (lt5 b3), decN_dig _ (lt6 b3 b4), decN_dig _ (lt7 b4), decN_dig _ (lt8 b5), decN_dig _ (lt9 b5 b6), decN_dig _ (lt10 b6), decN_dig _ (lt11 b6 b7), decN_dig _ (lt12 b7 b8), decN_dig _ (lt13 b8), decN_dig _ (lt14 b8 b9), decN_dig _ (lt15 b9), decN_dig _ (lt16 b10), decN_dig _ (lt17 b10 b11), decN_dig _ (lt18 b11), decN_dig _ (lt19 b11)]
  exact h
theorem xidsB_of (l : List UInt8) (h : l.all okDigit = true) (hl : l.length = 20) : xidsB ⟨l.toArray⟩ = true := by
  have hs : (⟨l.toArray⟩ : ByteArray).size = 20 := hl
  unfold xidsB
  rw [hs]
  simp only [h, decide_true, Bool.and_self]
theorem readOk_split (l : List UInt8) (h : readOk l = true) : l.length = 20 ∧ l.all okDigit = true ∧ decN (l.getD 19 0) % 16 = 0 := by
  unfold readOk at h
  simp only [Bool.and_eq_true, decide_eq_true_eq] at h
  exact ⟨h.1.1, h.1.2, h.2⟩
theorem xidsB_read (l : List UInt8) (h : readOk l = true) : xidsB ⟨l.toArray⟩ = true := xidsB_of l (readOk_split l h).2.1 (readOk_split l h).1
theorem xidsB_enc (bs : List UInt8) (h : bs.length = 12) : xidsB (strX bs) = true := xidsB_read _ (readOk_enc bs h)
theorem encB_readB (l : List UInt8) (h : readOk l = true) : encB (readB l) = l := by
  obtain ⟨hl, ha, hz⟩ := readOk_split l h
  obtain ⟨c0, c1, c2, c3, c4, c5, c6, c7, c8, c9, c10, c11, c12, c13, c14, c15, c16, c17, c18, c19, rfl⟩ := len20 l hl
  have q := fun i c hi => okDigit_lt c (allOk_get _ ha i c hi)
  obtain ⟨l0, e0⟩ := q 0 c0 rfl
  obtain ⟨l1, e1⟩ := q 1 c1 rfl
  obtain ⟨l2, e2⟩ := q 2 c2 rfl
  obtain ⟨l3, e3⟩ := q 3 c3 rfl
  obtain ⟨l4, e4⟩ := q 4 c4 rfl
  obtain ⟨l5, e5⟩ := q 5 c5 rfl
  obtain ⟨l6, e6⟩ := q 6 c6 rfl
  obtain ⟨l7, e7⟩ := q 7 c7 rfl
  obtain ⟨l8, e8⟩ := q 8 c8 rfl
  obtain ⟨l9, e9⟩ := q 9 c9 rfl
  obtain ⟨l10, e10⟩ := q 10 c10 rfl
  obtain ⟨l11, e11⟩ := q 11 c11 rfl
  obtain ⟨l12, e12⟩ := q 12 c12 rfl
  obtain ⟨l13, e13⟩ := q 13 c13 rfl
  obtain ⟨l14, e14⟩ := q 14 c14 rfl
  obtain ⟨l15, e15⟩ := q 15 c15 rfl
  obtain ⟨l16, e16⟩ := q 16 c16 rfl
  obtain ⟨l17, e17⟩ := q 17 c17 rfl
  obtain ⟨l18, e18⟩ := q 18 c18 rfl
  obtain ⟨l19, e19⟩ := q 19 c19 rfl
  have h := encL_dec (decN c0) (decN c1) (decN c2) (decN c3) (decN c4) (decN c5) (decN c6) (decN c7) (decN c8) (decN c9) (decN c10) (decN c11) (decN c12) (decN c13) (decN c14) (decN c15) (decN c16) (decN c17) (decN c18) (decN c19) l0 l1 l2 l3 l4 l5 l6 l7 l8 l9 l10 l11 l12 l13 l14 l15 l16 l17 l18 l19 hz
  rw [e0, e1, e2, e3, e4, e5, e6, e7, e8, e9, e10, e11, e12, e13, e14, e15, e16, e17, e18, e19] at h
  exact h
theorem strX_readB (s : ByteArray) (h : readOk s.data.toList = true) : strX (readB s.data.toList) = s := by
  unfold strX
  rw [encB_readB _ h]
theorem byteArray_ext (s t : ByteArray) (h : s.data.toList = t.data.toList) : s = t := by
  cases s; cases t; simp at h; simp [h]
end Go.Proofs.Ytppcpidlnpencaa
