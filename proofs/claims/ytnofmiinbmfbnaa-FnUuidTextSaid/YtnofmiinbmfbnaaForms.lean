/-
  The forms of a UUID's text are read as it, in plain lists.
-/
import Derived.Test.YtnofmiinbmfbnaaHexLaw
import Derived.Test.YtnofmiinbmfbnaaSpecRead
namespace Go.Proofs.Ytnofmiinbmfbnaa
open Go.RowKit
set_option linter.unusedVariables false
theorem hexN_hexd (k : Nat) (h : k < 16) : hexN (hexd k) = k := by
  have : ∀ k : Fin 16, hexN (hexd k.val) = k.val := by decide
  exact this ⟨k, h⟩
theorem len16 (bs : List UInt8) (h : bs.length = 16) : ∃ b0 b1 b2 b3 b4 b5 b6 b7 b8 b9 b10 b11 b12 b13 b14 b15, bs = [b0, b1, b2, b3, b4, b5, b6, b7, b8, b9, b10, b11, b12, b13, b14, b15] := by
  match bs, h with
  | [b0, b1, b2, b3, b4, b5, b6, b7, b8, b9, b10, b11, b12, b13, b14, b15], _ => exact ⟨b0, b1, b2, b3, b4, b5, b6, b7, b8, b9, b10, b11, b12, b13, b14, b15, rfl⟩
theorem enc_get (bs : List UInt8) (h : bs.length = 16) : (∀ i, i < 16 → (encK bs 16).getD (posN i) 0 = hexd ((bs.getD i 0).toNat / 16) ∧ (encK bs 16).getD (posN i + 1) 0 = hexd ((bs.getD i 0).toNat % 16)) ∧ (encK bs 16).getD 8 0 = 45 ∧ (encK bs 16).getD 13 0 = 45 ∧ (encK bs 16).getD 18 0 = 45 ∧ (encK bs 16).getD 23 0 = 45 := by
  obtain ⟨b0, b1, b2, b3, b4, b5, b6, b7, b8, b9, b10, b11, b12, b13, b14, b15, rfl⟩ := len16 bs h
  rw [enc_list]
  refine ⟨fun i hi => ?_, rfl, rfl, rfl, rfl⟩
  have h' : i = 0 ∨ i = 1 ∨ i = 2 ∨ i = 3 ∨ i = 4 ∨ i = 5 ∨ i = 6 ∨ i = 7 ∨ i = 8 ∨ i = 9 ∨ i = 10 ∨ i = 11 ∨ i = 12 ∨ i = 13 ∨ i = 14 ∨ i = 15 := by omega
  rcases h' with rfl | rfl | rfl | rfl | rfl | rfl | rfl | rfl | rfl | rfl | rfl | rfl | rfl | rfl | rfl | rfl <;> exact ⟨rfl, rfl⟩
theorem byte_back (b : UInt8) : UInt8.ofNat (b.toNat / 16 * 16 + b.toNat % 16) = b := by
  apply UInt8.toNat_inj.1
  have := b.toNat_lt
  rw [UInt8.toNat_ofNat']
  omega
theorem outP_get (pos : Nat → Nat) (l : List UInt8) (k i : Nat) (h : i < (outP pos l k).length) : (outP pos l k)[i] = byteAt l (pos i) := by
  simp [outP]
theorem enc_dec (bs : List UInt8) (h : bs.length = 16) : plainO (encK bs 16) = some bs := by
  obtain ⟨hg, h1, h2, h3, h4⟩ := enc_get bs h
  have hle := encK_length bs 16
  generalize encK bs 16 = E at *
  unfold plainO plain36
  rw [if_pos hle, if_pos ⟨h1, h2, h3, h4⟩]
  have l1 : ∀ i, (bs.getD i 0).toNat / 16 < 16 := fun i => by have := (bs.getD i 0).toNat_lt; omega
  have l2 : ∀ i, (bs.getD i 0).toNat % 16 < 16 := fun i => by omega
  rw [decPos_some]
  · congr 1
    refine List.ext_getElem (by rw [outP_length, h]) fun i hi hi' => ?_
    have hi16 : i < 16 := by rw [outP_length] at hi; exact hi
    rw [outP_get]
    unfold byteAt
    rw [(hg i hi16).1, (hg i hi16).2, hexN_hexd _ (l1 i), hexN_hexd _ (l2 i), byte_back]
    simp [List.getD, hi']
  · intro i hi
    unfold okAt
    rw [(hg i hi).1, (hg i hi).2, hexN_hexd _ (l1 i), hexN_hexd _ (l2 i)]
    simp only [l1 i, l2 i, decide_true, Bool.and_self]
theorem strip_plain (l : List UInt8) (out : List UInt8) (h : l.length = 36) (hp : plainO l = some out) : plainO (stripL l) = some out := by
  unfold plainO plain36 at hp
  rw [if_pos h] at hp
  split at hp
  · unfold plainO
    rw [if_neg (by rw [strip_len l h]; omega), if_pos (strip_len l h), strip_dec l h]
    exact hp
  · cases hp
theorem upC_hex (c : UInt8) : hexN (upC c) = hexN c := forall_u8 (p := fun c => hexN (upC c) = hexN c) (by decide +kernel) c
theorem upC_dash (c : UInt8) : upC c = 45 ↔ c = 45 := forall_u8 (p := fun c => upC c = 45 ↔ c = 45) (by decide +kernel) c
theorem getD_map_up (l : List UInt8) (j : Nat) : (l.map upC).getD j 0 = upC (l.getD j 0) := by
  by_cases h : j < l.length
  · simp [List.getD, h]
  · simp [List.getD, List.getElem?_eq_none (Nat.le_of_not_lt h)]; decide
theorem up_at (l : List UInt8) (p : Nat) : okAt (l.map upC) p = okAt l p ∧ byteAt (l.map upC) p = byteAt l p := by
  unfold okAt byteAt
  rw [getD_map_up, getD_map_up, upC_hex, upC_hex]
  exact ⟨rfl, rfl⟩
theorem up_dec (pos : Nat → Nat) (l : List UInt8) : decPos pos (l.map upC) = decPos pos l := by
  unfold decPos outP
  simp only [(up_at l _).1, (up_at l _).2]
theorem up_plain (l : List UInt8) : plainO (l.map upC) = plainO l := by
  unfold plainO plain36
  simp only [List.length_map, getD_map_up, upC_dash, up_dec]
theorem impl_core (c : List UInt8) (h : c.length = 32 ∨ c.length = 36) : implO c = plainO c := by
  unfold implO
  rw [if_pos h]
theorem impl_brace (c : List UInt8) (h : c.length = 32 ∨ c.length = 36) : implO ([123] ++ c ++ [125]) = plainO c := by
  unfold implO
  have hl : ([123] ++ c ++ [125] : List UInt8).length = c.length + 2 := by simp
  rw [hl, if_neg (by omega), if_pos (by omega), if_pos]
  · have : (([123] ++ c ++ [125] : List UInt8).drop 1).take (c.length + 2 - 2) = c := by simp
    rw [this]
  · constructor
    · simp
    · simp [List.getD]
theorem impl_urn (c : List UInt8) (h : c.length = 32 ∨ c.length = 36) : implO (urn9 ++ c) = plainO c := by
  unfold implO
  have hl : (urn9 ++ c).length = c.length + 9 := by simp [urn9]
  rw [hl, if_neg (by omega), if_neg (by omega), if_pos (by omega), if_pos]
  · rfl
  · rfl
theorem uuidStr_list (bs : List UInt8) : (uuidStr bs).data.toList = encK bs 16 := by
  unfold uuidStr
  generalize encK bs 16 = E
  rfl
def textForms (S P U1 U2 : ByteArray) : List ByteArray := [S, P, ⟨#[123]⟩ ++ S ++ ⟨#[125]⟩, ⟨#[123]⟩ ++ P ++ ⟨#[125]⟩, ⟨#[117, 114, 110, 58, 117, 117, 105, 100, 58]⟩ ++ S, ⟨#[117, 114, 110, 58, 117, 117, 105, 100, 58]⟩ ++ P, U1, U2]
theorem forms_read (bs : List UInt8) (h : bs.length = 16) (S P U1 U2 : ByteArray) (hS : S.data.toList = encK bs 16) (hP : P.data.toList = stripL (encK bs 16)) (h1 : U1.data.toList = (encK bs 16).map upC) (h2 : U2.data.toList = (stripL (encK bs 16)).map upC) :
    ∀ T ∈ textForms S P U1 U2, implO T.data.toList = some bs := by
  have e1 := enc_dec bs h
  have l1 := encK_length bs 16
  have e2 := strip_plain _ _ l1 e1
  have l2 := strip_len _ l1
  intro T hT
  simp only [textForms, List.mem_cons, List.not_mem_nil, or_false] at hT
  rcases hT with rfl | rfl | rfl | rfl | rfl | rfl | rfl | rfl
  · rw [hS, impl_core _ (.inr l1), e1]
  · rw [hP, impl_core _ (.inl l2), e2]
  · rw [ByteArray.data_append, ByteArray.data_append, Array.toList_append, Array.toList_append, hS]
    exact (impl_brace _ (.inr l1)).trans e1
  · rw [ByteArray.data_append, ByteArray.data_append, Array.toList_append, Array.toList_append, hP]
    exact (impl_brace _ (.inl l2)).trans e2
  · rw [ByteArray.data_append, Array.toList_append, hS]
    exact (impl_urn _ (.inr l1)).trans e1
  · rw [ByteArray.data_append, Array.toList_append, hP]
    exact (impl_urn _ (.inl l2)).trans e2
  · rw [h1, impl_core _ (.inr (by simp [l1])), up_plain, e1]
  · rw [h2, impl_core _ (.inl (by simp [l2])), up_plain, e2]
end Go.Proofs.Ytnofmiinbmfbnaa
