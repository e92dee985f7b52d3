/-
  spec.Join and spec.Bytes.
-/
import Derived.Test.YtppcpidlnpencaaXid
import Derived.Deep.OwnRows
namespace Go.Proofs.Ytppcpidlnpencaa
open Go.RowKit
set_option linter.unusedVariables false
def NewOk (bs : List UInt8) (w : World) (e : Ending) (w' : World) : Prop := ∃ v, e = .returned v ∧ NewBytes w w' v bs ∧ Below w.heap.size w w'
theorem own_block {w : World} {base : Nat} {e : TypeId} {v : Value} {n : Nat} {cs : List Value} (h : w.ownsRow base e 1 v n cs) : ∀ k, v.ownBlock = some k → base ≤ k := by
  intro k hk
  rcases h.2 with ⟨hv, -⟩ | ⟨g, cap, cur, rfl, hb, -⟩
  · subst hv; simp [Value.ownBlock] at hk
  · simp [Value.ownBlock] at hk; omega
set_option maxRecDepth 100000 in
theorem join_any (A1 A2 : Option Addr) (n1 c1 n2 c2 : Nat) (h1 : A1 = none → c1 = 0) (h2 : A2 = none → c2 = 0) (xs ys : List UInt8) (hx : xs.length = n1) (hy : ys.length = n2) (hp : 0 < n1 + n2) (b1 : n1 ≤ 70000) (b2 : n2 ≤ 70000) (w : World) (hbx : Byt w A1 xs) (hby : Byt w A2 ys) :
    Calls Try.prog 31 #[.slice A1 n1 c1, .slice A2 n2 c2] w (NewOk (xs ++ ys) w) := by
  have HX := Lib.hid hx
  have HY := Lib.hid hy
  have C1 := Lib.hid h1
  have C2 := Lib.hid h2
  have HO := Lib.hid (own_empty w 5 w.heap.size (Nat.le_refl _))
  have BA : Below w.heap.size w (w.alloc (.cells #[] 5)) := (Below.refl _ _).alloc (Nat.le_refl _) _
  have BX := Lib.hid (hbx.below BA (Nat.le_refl _))
  have BY := Lib.hid hby
  clear hx hy h1 h2 hbx hby BA
  go_enter Try.func31, Try.ntmps31
  go_wp2_with (refine wpList_appB rfl (.tmp 5) (.tmp 6) 22 rfl w.heap.size 5 Try.underlying22 Try.info8 _ 0 [] (by rfl) HO.out A1 n1 c1 xs (by rfl) BX.out HX.out C1.out (by omega) (by simp) ?_)
  intro v1 w1 o1 g1
  have O1 := Lib.hid o1
  have Bel1 := Lib.hid (((Below.refl w.heap.size w).alloc (Nat.le_refl _) (.cells #[] 5)).grown g1 (by simp) (by intro k hk; rcases o1.2 with ⟨hs, -⟩ | ⟨g, cap, cur, rfl, hb, -⟩ <;> simp [Value.ownBlock] at hk ⊢ <;> omega))
  clear o1 g1
  go_wp2_with (refine wpList_appB rfl (.tmp 7) (.tmp 8) 22 rfl w.heap.size 5 Try.underlying22 Try.info8 v1 n1 xs (by rfl) O1.out A2 n2 c2 ys (by rfl) (BY.out.below Bel1.out (Nat.le_refl _)) HY.out C2.out (by omega) (Bel1.out.size) ?_)
  intro v2 w2 o2 g2
  rw [← List.map_append] at o2
  have O2 := Lib.hid o2
  have G2 := Lib.hid g2
  clear o2 g2
  go_wp2
  go_ret
  obtain ⟨en, g, cap, e1, e2, e3⟩ := own_byt (bs := xs ++ ys) O2.out (by omega)
  exact ⟨v2, rfl, ⟨g, cap, by rw [e1, en], e2, e3⟩, Bel1.out.grown G2.out Bel1.out.size (own_block O1.out)⟩
def bytesN (n : Nat) : Nat → List UInt8
  | 0 => []
  | k + 1 => bytesN (n / 256) k ++ [UInt8.ofNat n]
theorem bytesN_length (n : Nat) : ∀ k, (bytesN n k).length = k
  | 0 => rfl
  | k + 1 => by rw [bytesN, List.length_append, bytesN_length]; rfl
theorem bytesN_cons (n : Nat) : ∀ k, bytesN n (k + 1) = UInt8.ofNat (n / 256 ^ k) :: bytesN n k
  | 0 => by simp [bytesN]
  | k + 1 => by
    rw [bytesN, bytesN_cons (n / 256) k, List.cons_append, Nat.div_div_eq_div_mul, Nat.pow_succ, Nat.mul_comm 256]; rfl
theorem bytes_step (n k m : Nat) (h : k < m) : ((List.replicate (m - k) (0 : UInt8)) ++ bytesN n k).set (m - 1 - k) (UInt8.ofNat (n / 256 ^ k)) = List.replicate (m - (k + 1)) (0 : UInt8) ++ bytesN n (k + 1) := by
  rw [bytesN_cons, show m - k = (m - (k + 1)) + 1 by omega, List.replicate_succ', List.append_assoc, show m - 1 - k = m - (k + 1) by omega, List.set_append_right _ _ (by simp)]
  simp
theorem ofNat_u8 (n : Nat) : ((UInt8.ofNat n).toNat : Int) = (n : Int) % 256 := by rw [UInt8.toNat_ofNat']; omega
theorem made_zero (m : Nat) : madeCells #[Value.int .u8 0] m = ((List.replicate m (0 : UInt8)).map B8).toArray := by
  apply Array.ext
  · simp [madeCells]
  · intro i h1 h2
    simp [madeCells, B8, Nat.mod_one]
set_option maxRecDepth 100000 in
theorem bytes_any (n m : Nat) (hm : m ≤ 8) (hp : 0 < m) (hn : n < 18446744073709551616) (w : World) :
    Calls Try.prog 32 #[.int .u64 (n : Int), .int .i64 (m : Int)] w (NewOk (bytesN n m) w) := by
  obtain ⟨i, hi1, hi2, hi3, hi4⟩ := info_parts Try.info8
  go_enter Try.func32, Try.ntmps32
  go_wp2_with (refine wpList_make_row _ rfl (.tmp 7) (.tmp 7) 22 rfl 5 i (.int .u8 0) Try.underlying22 hi1 hi2 hi3 rfl .i64 .i64 m (by rfl) (by rfl) (by rw [hi4]; omega) (by omega) ?_)
  rw [made_zero]
  have hw := NewB.alloc w 5 ((List.replicate m (0 : UInt8)).map B8)
  generalize w.alloc (.cells ((List.replicate m (0 : UInt8)).map B8).toArray 5) = w1 at hw ⊢
  have H1 := Lib.hid hw
  clear hw hi1 hi2 hi3 hi4
  go_wp2
  go_loopw [0, 6] (fun s i wr => ∃ k : Nat, k ≤ m ∧ s = .int .u64 ((n / 256 ^ k : Nat) : Int) ∧ i = .int .i64 ((m : Int) - 1 - (k : Int)) ∧ At wr w.heap.size 5 ((List.replicate (m - k) (0 : UInt8) ++ bytesN n k).map B8) ∧ Below w.heap.size w wr) (fun _ i _ => (intOf i + 1).toNat)
  case atStart => exact ⟨0, by omega, by simp, by simp, by simpa [bytesN] using H1.out.at_, H1.out.below (Below.refl _ _) (Nat.le_refl _)⟩
  case round =>
    obtain ⟨k, hk, rfl, rfl, ha, hb⟩ := hrel
    by_cases hlt : k < m
    · have ln : (List.replicate (m - k) (0 : UInt8) ++ bytesN n k).length = m := by rw [List.length_append, List.length_replicate, bytesN_length]; omega
      have st := bytes_step n k m hlt
      obtain ⟨p, hp'⟩ : ∃ p : Nat, p = m - 1 - k := ⟨_, rfl⟩
      have ep : (m : Int) - 1 - (k : Int) = (p : Int) := by omega
      have pl : p < m := by omega
      rw [ep]
      obtain ⟨cur, hc⟩ : ∃ cur, cur = List.replicate (m - k) (0 : UInt8) ++ bytesN n k := ⟨_, rfl⟩
      rw [← hp', ← hc] at st
      rw [← hc] at ha ln
      have cp : wr.cell? ⟨w.heap.size, p, none⟩ = some (.int .u8 ((cur.getD p 0).toNat : Int)) := by
        rw [ha.cell p (by simpa [ln] using pl)]; simp [B8, List.getD, ln, pl]
      have fp := ha.frozen p
      generalize ((cur.getD p 0).toNat : Int) = old at cp
      obtain ⟨q, hq⟩ : ∃ q : Nat, q = n / 256 ^ k := ⟨_, rfl⟩
      have ql : q < 18446744073709551616 := by rw [hq]; exact Nat.lt_of_le_of_lt (Nat.div_le_self _ _) hn
      have qn : n / 256 ^ (k + 1) = q / 256 := by rw [hq, Nat.div_div_eq_div_mul, Nat.pow_succ]
      rw [← hq] at st ⊢
      have hqi : (q : Int) < 18446744073709551616 := by omega
      have hpi : (p : Int) < (m : Int) := by omega
      have ST := Lib.hid st
      have QN := Lib.hid qn
      have LN := Lib.hid ln
      have HA := Lib.hid ha
      have HB := Lib.hid hb
      have EP := Lib.hid ep
      clear hp' hc hq st qn ln ha hb ep hk hlt
      go_wp2
      go_roundw
      case rel =>
        have P1 := PutB.setCell HA.out p (B8 (UInt8.ofNat q))
        refine ⟨k + 1, by have := EP.out; omega, by rw [QN.out]; go_num, by have := EP.out; go_num, ?_, ?_⟩
        · rw [← ST.out, List.map_set]
          have := P1.at_
          simp only [B8, ofNat_u8] at this
          exact this
        · have := P1.below HB.out (Nat.le_trans (Nat.le_refl _) HB.out.size) (Nat.le_refl _)
          simp only [B8, ofNat_u8] at this
          exact this
      case measure => simp [intOf] <;> omega
    · obtain rfl : k = m := by omega
      rw [show (k : Int) - 1 - (k : Int) = -1 by omega]
      have e : List.replicate (k - k) (0 : UInt8) ++ bytesN n k = bytesN n k := by simp
      rw [e] at ha
      have HA := Lib.hid ha
      have HB := Lib.hid hb
      clear ha hb e hlt hk
      go_wp2
      go_ret
      exact ⟨.slice (some ⟨w.heap.size, 0, none⟩) k k, rfl, ⟨w.heap.size, k, by rw [bytesN_length], Nat.le_refl _, HA.out.byt⟩, HB.out⟩
end Go.Proofs.Ytppcpidlnpencaa
