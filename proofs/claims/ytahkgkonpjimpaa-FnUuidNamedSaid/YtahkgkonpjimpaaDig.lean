/-
  A digest as the stream that was written: plain laws.
-/
import Derived.Test.YtahkgkonpjimpaaSha1Blk
import Derived.Test.YtahkgkonpjimpaaDrawX
namespace Go.Proofs.Ytahkgkonpjimpaa
open Go.RowKit
set_option linter.unusedVariables false
def BsFrom {S : Type} (G : List UInt8 → Nat → S → S) (bs : List UInt8) (off : Nat) (s : S) : Nat → S
  | 0 => s
  | k + 1 => G bs (off + 64 * k) (BsFrom G bs off s k)
def Loc {S : Type} (G : List UInt8 → Nat → S → S) : Prop := ∀ (bs bs' : List UInt8) (i i' : Nat) (s : S), (∀ q, q < 64 → bs.getD (i + q) 0 = bs'.getD (i' + q) 0) → G bs i s = G bs' i' s
theorem BsFrom_congr {S : Type} {G : List UInt8 → Nat → S → S} (hG : Loc G) (bs bs' : List UInt8) (a a' : Nat) (s : S) : ∀ m, (∀ q, q < 64 * m → bs.getD (a + q) 0 = bs'.getD (a' + q) 0) → BsFrom G bs a s m = BsFrom G bs' a' s m
  | 0, _ => rfl
  | m + 1, h => by
    unfold BsFrom
    rw [BsFrom_congr hG bs bs' a a' s m fun q hq => h q (by omega)]
    refine hG _ _ _ _ _ fun q hq => ?_
    have := h (64 * m + q) (by omega)
    rwa [← Nat.add_assoc, ← Nat.add_assoc] at this
theorem BsFrom_add {S : Type} (G : List UInt8 → Nat → S → S) (bs : List UInt8) (off : Nat) (s : S) (k : Nat) : ∀ m, BsFrom G bs off s (k + m) = BsFrom G bs (off + 64 * k) (BsFrom G bs off s k) m
  | 0 => rfl
  | m + 1 => by
    show G bs (off + 64 * (k + m)) (BsFrom G bs off s (k + m)) = G bs (off + 64 * k + 64 * m) _
    rw [BsFrom_add G bs off s k m, show off + 64 * (k + m) = off + 64 * k + 64 * m by omega]
def md5G (bs : List UInt8) (i : Nat) (s : S4) : S4 := md5F (words bs i) s
def sha1G (bs : List UInt8) (i : Nat) (s : S5) : S5 := sumS s (runS (s, (List.range 16).map (wordsS bs i)) 80).1
theorem md5Bs_from (bs : List UInt8) (s : S4) : ∀ k, md5Bs bs s k = BsFrom md5G bs 0 s k
  | 0 => rfl
  | k + 1 => by
    show md5F (words bs (64 * k)) (md5Bs bs s k) = md5F (words bs (0 + 64 * k)) _
    rw [md5Bs_from bs s k, Nat.zero_add]
theorem sha1Bs_from (bs : List UInt8) (s : S5) : ∀ k, sha1Bs bs s k = BsFrom sha1G bs 0 s k
  | 0 => rfl
  | k + 1 => by
    show sumS (sha1Bs bs s k) (runS (sha1Bs bs s k, (List.range 16).map (wordsS bs (64 * k))) 80).1 = sha1G bs (0 + 64 * k) _
    rw [sha1Bs_from bs s k, Nat.zero_add]
    rfl
theorem par_lt : ∀ k, (md5Par.getD k (0, 0, 0, 0)).2.1 < 16 := fun k => by
  have h : md5Par.all (fun p => decide (p.2.1 < 16)) = true := by decide +kernel
  rcases Nat.lt_or_ge k md5Par.length with hk | hk
  · have := List.all_eq_true.1 h md5Par[k] (List.getElem_mem hk)
    simpa [List.getD, hk] using this
  · simp [List.getD, List.getElem?_eq_none hk]
theorem md5T_congr (xs ys : Nat → Int) (h : ∀ j, j < 16 → xs j = ys j) (s : S4) : ∀ k, md5T xs s k = md5T ys s k
  | 0 => rfl
  | k + 1 => by
    unfold md5T
    rw [md5T_congr xs ys h s k]
    unfold md5Stp
    rw [h _ (par_lt k)]
theorem md5G_loc : Loc md5G := fun bs bs' i i' s h => by
  have hw : ∀ j, j < 16 → words bs i j = words bs' i' j := fun j hj => by
    unfold words
    rw [h (4 * j) (by omega), h (4 * j + 1) (by omega), h (4 * j + 2) (by omega), h (4 * j + 3) (by omega)]
  unfold md5G md5F
  rw [md5T_congr _ _ hw]
theorem sha1G_loc : Loc sha1G := fun bs bs' i i' s h => by
  unfold sha1G
  rw [show (List.range 16).map (wordsS bs i) = (List.range 16).map (wordsS bs' i') from List.map_congr_left fun j hj => by
    have hj' : j < 16 := by simpa using hj
    unfold wordsS
    rw [h (4 * j) (by omega), h (4 * j + 1) (by omega), h (4 * j + 2) (by omega), h (4 * j + 3) (by omega)]]
/-- The cells of a digest: its words, its buffer, how much of the buffer counts, how long the stream is. -/
def DCg (hd : List Value) (X : List UInt8) (q ln : Nat) : List Value := hd ++ (X.map B8 ++ [.int .i64 (q : Int), .int .u64 (ln : Int)])
section
variable {hd : List Value} {X : List UInt8} {q ln sb : Nat}
theorem DCg_len (hh : hd.length = sb) (hX : X.length = 64) : (DCg hd X q ln).length = sb + 66 := by simp [DCg, hh, hX]
theorem DCg_nx (hh : hd.length = sb) (hX : X.length = 64) : (DCg hd X q ln)[sb + 64]? = some (.int .i64 (q : Int)) := by
  unfold DCg
  rw [List.getElem?_append_right (by omega), List.getElem?_append_right (by simp; omega)]
  simp [hh, hX]
theorem DCg_ln (hh : hd.length = sb) (hX : X.length = 64) : (DCg hd X q ln)[sb + 65]? = some (.int .u64 (ln : Int)) := by
  unfold DCg
  rw [List.getElem?_append_right (by omega), List.getElem?_append_right (by simp; omega)]
  simp [hh, hX]
theorem DCg_set_nx (hh : hd.length = sb) (hX : X.length = 64) (q' : Nat) : (DCg hd X q ln).set (sb + 64) (.int .i64 (q' : Int)) = DCg hd X q' ln := by
  unfold DCg
  rw [List.set_append_right _ _ (by omega), List.set_append_right _ _ (by simp; omega)]
  simp [hh, hX]
theorem DCg_set_ln (hh : hd.length = sb) (hX : X.length = 64) (l' : Nat) : (DCg hd X q ln).set (sb + 65) (.int .u64 (l' : Int)) = DCg hd X q l' := by
  unfold DCg
  rw [List.set_append_right _ _ (by omega), List.set_append_right _ _ (by simp; omega)]
  simp [hh, hX]
theorem splice_app {α : Type} (A R cs : List α) (o : Nat) : splice (A ++ R) (A.length + o) cs = A ++ splice R o cs := by
  unfold splice
  rw [List.take_append, List.append_assoc, Nat.add_assoc, List.drop_append, List.take_of_length_le (by omega), Nat.add_sub_cancel_left, List.drop_eq_nil_of_le (by omega), List.nil_append, Nat.add_sub_cancel_left]
theorem splice_left {α : Type} (A R cs : List α) (o : Nat) (h : o + cs.length ≤ A.length) : splice (A ++ R) o cs = splice A o cs ++ R := by
  unfold splice
  rw [List.take_append_of_le_length (by omega), List.drop_append_of_le_length (by omega)]
  simp
theorem DCg_splice (hh : hd.length = sb) (hX : X.length = 64) (o : Nat) (ds : List UInt8) (h : o + ds.length ≤ 64) : splice (DCg hd X q ln) (sb + o) (ds.map B8) = DCg hd (splice X o ds) q ln := by
  unfold DCg
  rw [← hh, splice_app, splice_left _ _ _ _ (by simp; omega)]
  congr 1
  unfold splice
  simp
theorem splice_len {α : Type} (L cs : List α) (o : Nat) (h : o + cs.length ≤ L.length) : (splice L o cs).length = L.length := length_splice L o cs h
theorem splice_take {α : Type} (L cs : List α) (o : Nat) (h : o + cs.length ≤ L.length) : (splice L o cs).take (o + cs.length) = L.take o ++ cs := by
  unfold splice
  rw [← List.append_assoc, List.take_append_of_le_length (by simp; omega), List.take_of_length_le (by simp; omega)]
theorem DCg_cells {w : World} {g : Nat} {t : TypeId} (h : At w g t (DCg hd X q ln)) (hh : hd.length = sb) (hX : X.length = 64) : w.cell? ⟨g, sb + 64, none⟩ = some (.int .i64 (q : Int)) ∧ w.cell? ⟨g, sb + 65, none⟩ = some (.int .u64 (ln : Int)) ∧ ∀ j (hj : j < X.length), w.cell? ⟨g, sb + j, none⟩ = some (B8 X[j]) := by
  have hl := DCg_len (q := q) (ln := ln) hh hX
  refine ⟨?_, ?_, fun j hj => ?_⟩
  · have h1 := DCg_nx (q := q) (ln := ln) hh hX
    obtain ⟨h2, h3⟩ := List.getElem?_eq_some_iff.1 h1
    rw [h.cell (sb + 64) h2, h3]
  · have h1 := DCg_ln (q := q) (ln := ln) hh hX
    obtain ⟨h2, h3⟩ := List.getElem?_eq_some_iff.1 h1
    rw [h.cell (sb + 65) h2, h3]
  · have h2 : sb + j < (DCg hd X q ln).length := by omega
    rw [h.cell (sb + j) h2]
    congr 1
    have : (DCg hd X q ln)[sb + j]? = some (B8 X[j]) := by
      unfold DCg
      rw [List.getElem?_append_right (by omega), List.getElem?_append_left (by simp; omega), show sb + j - hd.length = j by omega]
      simp [hj]
    obtain ⟨h3, h4⟩ := List.getElem?_eq_some_iff.1 this
    exact h4
end
/-- What the stream T has left: the words, the buffer's beginning. -/
def Left {S : Type} (G : List UInt8 → Nat → S → S) (iv : S) (T : List UInt8) (s : S) (X : List UInt8) (q : Nat) : Prop := s = BsFrom G T 0 iv (T.length / 64) ∧ q = T.length % 64 ∧ X.length = 64 ∧ X.take q = T.drop (64 * (T.length / 64))
section
variable {S : Type} {G : List UInt8 → Nat → S → S} {iv s : S} {T X : List UInt8} {q : Nat}
theorem getD_app_left (T D : List UInt8) (q : Nat) (h : q < T.length) : (T ++ D).getD q 0 = T.getD q 0 := by simp only [List.getD]; rw [List.getElem?_append_left h]
theorem getD_app_right (T D : List UInt8) (q : Nat) : (T ++ D).getD (T.length + q) 0 = D.getD q 0 := by simp only [List.getD]; rw [List.getElem?_append_right (by omega)]; congr 2; omega
theorem Left.nil (X : List UInt8) (hX : X.length = 64) : Left G iv [] iv X 0 := ⟨rfl, rfl, hX, by simp⟩
/-- Bytes that do not fill the buffer. -/
theorem Left.some_ (h : Left G iv T s X q) (hG : Loc G) (D : List UInt8) (hD : q + D.length < 64) : Left G iv (T ++ D) s (splice X q D) (q + D.length) := by
  obtain ⟨h1, h2, h3, h4⟩ := h
  have hl : (T ++ D).length = T.length + D.length := List.length_append
  have hdiv : (T ++ D).length / 64 = T.length / 64 := by omega
  refine ⟨?_, by omega, by rw [splice_len _ _ _ (by omega)]; exact h3, ?_⟩
  · rw [h1, hdiv]
    refine BsFrom_congr hG _ _ _ _ _ _ fun q hq => ?_
    rw [Nat.zero_add, getD_app_left _ _ _ (by omega)]
  · rw [splice_take X D q (by omega), h4, hdiv, List.drop_append_of_le_length (by omega)]
/-- Bytes that fill it. -/
theorem Left.fill (h : Left G iv T s X q) (hG : Loc G) (D : List UInt8) (hD : q + D.length = 64) (X' : List UInt8) (hX' : X'.length = 64) : Left G iv (T ++ D) (BsFrom G (splice X q D) 0 s 1) X' 0 := by
  obtain ⟨h1, h2, h3, h4⟩ := h
  have hl : (T ++ D).length = T.length + D.length := List.length_append
  have hdiv : (T ++ D).length / 64 = T.length / 64 + 1 := by omega
  refine ⟨?_, by omega, hX', ?_⟩
  · rw [hdiv, BsFrom_add, h1]
    rw [show BsFrom G (T ++ D) 0 iv (T.length / 64) = BsFrom G T 0 iv (T.length / 64) from BsFrom_congr hG _ _ _ _ _ _ fun q hq => by rw [Nat.zero_add, getD_app_left _ _ _ (by omega)]]
    refine BsFrom_congr hG _ _ _ _ _ _ fun j hj => ?_
    have hs := splice_take X D q (by omega)
    have e1 : (splice X q D).getD (0 + j) 0 = (X.take q ++ D).getD j 0 := by
      rw [← hs, Nat.zero_add]
      simp only [List.getD]
      rw [List.getElem?_take_of_lt (by omega)]
    rw [e1, h4]
    have e2 : T ++ D = T.take (64 * (T.length / 64)) ++ (T.drop (64 * (T.length / 64)) ++ D) := by rw [← List.append_assoc, List.take_append_drop]
    rw [e2]
    have hlt : (T.take (64 * (T.length / 64))).length = 64 * (T.length / 64) := by rw [List.length_take]; omega
    have := getD_app_right (T.take (64 * (T.length / 64))) (T.drop (64 * (T.length / 64)) ++ D) j
    rw [hlt] at this
    rw [Nat.zero_add, this]
  · rw [List.take_zero, List.drop_eq_nil_of_le (by omega)]
/-- Whole blocks. -/
theorem Left.blocks (h : Left G iv T s X q) (hG : Loc G) (hq : q = 0) (D : List UInt8) (m : Nat) (hD : 64 * m ≤ D.length) : Left G iv (T ++ D.take (64 * m)) (BsFrom G D 0 s m) X 0 := by
  obtain ⟨h1, h2, h3, h4⟩ := h
  have hlt : (D.take (64 * m)).length = 64 * m := by rw [List.length_take]; omega
  have hl : (T ++ D.take (64 * m)).length = T.length + 64 * m := by rw [List.length_append, hlt]
  have hdiv : (T ++ D.take (64 * m)).length / 64 = T.length / 64 + m := by omega
  refine ⟨?_, by omega, h3, ?_⟩
  · rw [hdiv, BsFrom_add, h1]
    rw [show BsFrom G (T ++ D.take (64 * m)) 0 iv (T.length / 64) = BsFrom G T 0 iv (T.length / 64) from BsFrom_congr hG _ _ _ _ _ _ fun q hq => by rw [Nat.zero_add, getD_app_left _ _ _ (by omega)]]
    refine BsFrom_congr hG _ _ _ _ _ _ fun j hj => ?_
    have := getD_app_right T (D.take (64 * m)) j
    rw [show 0 + 64 * (T.length / 64) + j = T.length + j by omega, this, Nat.zero_add]
    simp only [List.getD]
    rw [List.getElem?_take_of_lt hj]
  · rw [List.take_zero, List.drop_eq_nil_of_le (by omega)]
end
end Go.Proofs.Ytahkgkonpjimpaa
