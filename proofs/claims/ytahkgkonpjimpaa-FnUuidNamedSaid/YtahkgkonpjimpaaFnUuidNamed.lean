/-
  The walk of FnUuidNamed.
-/
import Derived.Test.YtahkgkonpjimpaaNamed
import Derived.Test.YtahkgkonpjimpaaISum
import Derived.Test.YtahkgkonpjimpaaFormD
import Derived.Test.YtahkgkonpjimpaaCmp
import Derived.Test.YtahkgkonpjimpaaRow
import Derived.Test.YtahkgkonpjimpaaBuild
namespace Go.Proofs.Ytahkgkonpjimpaa
open Go.RowKit
set_option linter.unusedVariables false
theorem byte_build (x : UInt8) (w : World) : (Instr.buildSlice 22 1 #[(0, .int .u8 (x.toNat : Int))]).run Try.prog w = .ok (.slice (some ⟨w.heap.size, 0, none⟩) 1 1) (w.alloc (.cells ([x].map B8).toArray 5)) := by kernel_rfl
theorem str_index (S : ByteArray) (j : Nat) (h : j < S.data.toList.length) (w : World) : (Instr.index 9 (.string S) (.int .i64 (j : Int))).run Try.prog w = .ok (.int .u8 ((S.data.toList.getD j 0).toNat : Int)) w := by
  have hs : j < S.size := by simpa using h
  have hr := run_index_string (P := Try.prog) (w := w) 9 S .i64 (j : Int) Try.underlying9
  rw [hr]
  simp [hs, List.getD, ByteArray.getElem_eq_getElem_data]
theorem take_one (l : List UInt8) (k : Nat) (h : k < l.length) : l.take k ++ [l.getD k 0] = l.take (k + 1) := by
  rw [List.take_add_one, List.getD]
  simp [h]
set_option maxRecDepth 100000 in
set_option maxHeartbeats 4000000 in
theorem named_law_3 (A : Option Addr) (c : Nat) (hc : A = none → c = 0) (ns : List UInt8) (hns : ns.length = 16) (s : ByteArray) (m : Nat) (hm : s.size = m) (hn : m ≤ 200) (w : World) (hb : Byt w A ns) :
    Calls Try.prog 3 #[.int .i64 3, .slice A 16 c, .string s] w fun e w' => e = .returned (.bool true) ∧ Below w.heap.size w w' := by
  obtain ⟨nm, hnm⟩ : ∃ nm, s.data.toList = nm := ⟨_, rfl⟩
  have HML := Lib.hid (show nm.length = m by rw [← hnm, ← hm]; simp)
  obtain ⟨R, hR⟩ : ∃ R, R = sumM (ns ++ nm) := ⟨_, rfl⟩
  have HRL := Lib.hid (show R.length = 16 by rw [hR]; simp [sumM, le4B])
  have HFL := Lib.hid (show (formN (R.take 16) 3).length = 16 by unfold formN; rw [List.length_set, List.length_set]; rw [List.length_take, HRL.out]; rfl)
  have UN := Lib.hid (show ∀ w, Byt w A ns → Calls Try.prog 4 #[.int .i64 3, .slice A 16 c, .string s] w (ToldC (formN (R.take 16) 3) w) from fun w hb => by rw [hR]; exact uuidNamed_3 A c ns nm hns s hnm (by rw [HML.out]; exact hn) w hb)
  have IS := Lib.hid (show ∀ (b c : Nat), 16 + m ≤ c → ∀ w, Byt w (some ⟨b, 0, none⟩) (ns ++ nm) → Calls Try.prog 5 #[.int .i64 3, .slice (some ⟨b, 0, none⟩) (16 + m) c] w (CapNew R w) from fun b c h w hb => by rw [hR]; exact sum_3 b (16 + m) c (ns ++ nm) (by rw [List.length_append, hns, HML.out]) (by omega) (by omega) h w hb)
  have HX := Lib.hid (fun (k : Nat) (hk : k < m) => show ∀ w, (Instr.index 9 (.string s) (.int .i64 (k : Int))).run Try.prog w = .ok (.int .u8 ((nm.getD k 0).toNat : Int)) w from fun w => by rw [← hnm]; exact str_index s k (by rw [hnm, HML.out]; exact hk) w)
  have HNL := Lib.hid hns
  have HB0 := Lib.hid hb
  have HC := Lib.hid hc
  have HO := Lib.hid (own_empty w 5 w.heap.size (Nat.le_refl _))
  have HB := Lib.hid (hb.below (B := w.heap.size) ((Below.refl _ _).alloc (Nat.le_refl _) (.cells #[] 5)) (Nat.le_refl _))
  have mi : (m : Int) ≤ 200 := by omega
  have d1 : decide ((2147483647 : Int) < (m : Int)) = false := by simp; omega
  have d2 : decide ((200 : Int) < (m : Int)) = false := by simp; omega
  have d3 : ((16 : Int) != 16) = false := rfl
  clear hns hb hc hnm hR hn
  go_enter Try.func3, Try.ntmps3
  go_wp2_with (refine wpList_appB rfl (.tmp 36) (.tmp 37) 22 rfl w.heap.size 5 Try.underlying22 Try.info8 _ 0 [] (by rfl) HO.out A 16 c ns (by rfl) HB.out HNL.out HC.out (by omega) (by simp) ?_)
  intro v1 w1 o1 g1
  have O1 := Lib.hid o1
  have B1 := Lib.hid (((Below.refl w.heap.size w).alloc (Nat.le_refl _) (.cells #[] 5)).grown g1 (by simp) (by simp [Value.ownBlock]))
  clear o1 g1
  go_wp2
  go_loopw [7, 41] (fun v i wr => ∃ k : Nat, k ≤ m ∧ i = .int .i64 k ∧ wr.ownsRow w.heap.size 5 1 v (16 + k) ((ns ++ nm.take k).map B8) ∧ Below w.heap.size w wr) (fun _ i _ => m - (intOf i).toNat)
  case atStart => exact ⟨0, by omega, rfl, by rw [List.take_zero, List.append_nil]; exact O1.out, B1.out⟩
  case round =>
    obtain ⟨k, hk, rfl, hown, hbel⟩ := hrel
    have HOW := Lib.hid hown
    have HBE := Lib.hid hbel
    clear hown hbel
    by_cases hlt : k < m
    · have ix := HX.out k hlt
      have TK := Lib.hid (take_one nm k (by rw [HML.out]; exact hlt))
      obtain ⟨x, hx⟩ : ∃ x, x = nm.getD k 0 := ⟨_, rfl⟩
      rw [← hx] at ix TK
      have q1 : (k : Int) < (m : Int) := by omega
      have BB := Lib.hid (byte_build x)
      clear hx
      go_wp2_with (refine wpList_buildS rfl 22 5 1 _ #[(0, .int .u8 (x.toNat : Int))] rfl (by first | rfl | simp [Act.eval]) ([x].map B8) BB.out ?_)
      intro w4 h4
      have A4 := Lib.hid h4.at_
      have O4 := Lib.hid (HOW.out.kept h4.grown (by cases u7.ownBlock <;> simp))
      have B4 := Lib.hid (h4.below HBE.out HBE.out.size)
      have OB := Lib.hid (own_block O4.out)
      clear h4
      go_wp2_with (refine wpList_appB rfl (.tmp 44) (.tmp 48) 22 rfl w.heap.size 5 Try.underlying22 Try.info8 u7 (16 + k) (ns ++ nm.take k) (by rfl) O4.out (some ⟨wr.heap.size, 0, none⟩) 1 1 [x] (by rfl) A4.out.byt rfl (by simp) (by omega) B4.out.size ?_)
      intro v5 w5 o5 g5
      have O5 := Lib.hid (show w5.ownsRow w.heap.size 5 1 v5 (16 + k + 1) ((ns ++ nm.take (k + 1)).map B8) by rw [← TK.out]; simpa using o5)
      have B5 := Lib.hid (show Below w.heap.size w w5 from B4.out.grown g5 B4.out.size OB.out)
      clear o5 g5
      go_wp2
      go_roundw
      case rel => exact ⟨k + 1, by omega, by go_num, O5.out, B5.out⟩
      case measure => simp [intOf]; omega
    · obtain rfl : k = m := by omega
      have o6 := HOW.out
      rw [show nm.take k = nm by rw [← HML.out, List.take_length]] at o6
      obtain ⟨en, gd, cd, hv6, hg6, by6⟩ := own_byt o6 (by omega)
      have CD := Lib.hid (own_cap o6 gd cd hv6)
      have BY6 := Lib.hid by6
      subst hv6
      clear o6 en hg6 by6
      go_wp2_with fail
      refine (UN.out wr (HB0.out.below HBE.out (Nat.le_refl _))).mono ?_
      rintro e w5 ⟨gu, cu, rfl, h1, h2, h3, h4⟩
      rw [HFL.out] at h1 ⊢
      have U1 := Lib.hid h1
      have U3 := Lib.hid h3
      have U4 := Lib.hid h4
      clear h1 h2 h3 h4
      go_wp2_with fail
      refine (IS.out gd cd CD.out w5 (BY6.out.below U4.out (Nat.le_refl _))).mono ?_
      rintro e w6 ⟨gs, cs, rfl, h1, h2, h3, h4⟩
      rw [HRL.out] at h1 ⊢
      have S1 := Lib.hid h1
      have S3 := Lib.hid h3
      have S4 := Lib.hid h4
      clear h1 h2 h3 h4
      go_wp2_with fail
      refine (form_any (some ⟨gs, 0, none⟩) 16 cs (by decide) R HRL.out 3 (by decide) (by simp) w6 S3.out S1.out).mono ?_
      rintro e w7 ⟨v, rfl, ⟨gf, cf, rfl, h1, h2⟩, h3⟩
      rw [HFL.out]
      have F2 := Lib.hid h2
      have F3 := Lib.hid h3
      clear h1 h2 h3
      go_wp2_with fail
      refine (same_any (some ⟨gu, 0, none⟩) (some ⟨gf, 0, none⟩) 16 16 cu cf (formN (R.take 16) 3) (formN (R.take 16) 3) HFL.out HFL.out (by omega) w7 ((U3.out.below S4.out (Nat.le_refl _)).below F3.out (Nat.le_refl _)) F2.out).mono ?_
      rw [sameB_self]
      intro e w8 h
      obtain ⟨rfl, bel8⟩ := h.below
      have B8' := Lib.hid bel8
      clear h bel8
      go_wp2
      go_ret
      have b5 : Below w.heap.size w w5 := HBE.out.trans (U4.out.mono HBE.out.size)
      have b6 : Below w.heap.size w w6 := b5.trans (S4.out.mono b5.size)
      have b7 : Below w.heap.size w w7 := b6.trans (F3.out.mono b6.size)
      exact ⟨rfl, b7.trans (B8'.out.mono b7.size)⟩
set_option maxRecDepth 100000 in
set_option maxHeartbeats 4000000 in
theorem named_law_5 (A : Option Addr) (c : Nat) (hc : A = none → c = 0) (ns : List UInt8) (hns : ns.length = 16) (s : ByteArray) (m : Nat) (hm : s.size = m) (hn : m ≤ 200) (w : World) (hb : Byt w A ns) :
    Calls Try.prog 3 #[.int .i64 5, .slice A 16 c, .string s] w fun e w' => e = .returned (.bool true) ∧ Below w.heap.size w w' := by
  obtain ⟨nm, hnm⟩ : ∃ nm, s.data.toList = nm := ⟨_, rfl⟩
  have HML := Lib.hid (show nm.length = m by rw [← hnm, ← hm]; simp)
  obtain ⟨R, hR⟩ : ∃ R, R = sumS1 (ns ++ nm) := ⟨_, rfl⟩
  have HRL := Lib.hid (show R.length = 20 by rw [hR]; simp [sumS1, be4B])
  have HFL := Lib.hid (show (formN (R.take 16) 5).length = 16 by unfold formN; rw [List.length_set, List.length_set]; rw [List.length_take, HRL.out]; rfl)
  have UN := Lib.hid (show ∀ w, Byt w A ns → Calls Try.prog 4 #[.int .i64 5, .slice A 16 c, .string s] w (ToldC (formN (R.take 16) 5) w) from fun w hb => by rw [hR]; exact uuidNamed_5 A c ns nm hns s hnm (by rw [HML.out]; exact hn) w hb)
  have IS := Lib.hid (show ∀ (b c : Nat), 16 + m ≤ c → ∀ w, Byt w (some ⟨b, 0, none⟩) (ns ++ nm) → Calls Try.prog 5 #[.int .i64 5, .slice (some ⟨b, 0, none⟩) (16 + m) c] w (CapNew R w) from fun b c h w hb => by rw [hR]; exact sum_5 b (16 + m) c (ns ++ nm) (by rw [List.length_append, hns, HML.out]) (by omega) (by omega) h w hb)
  have HX := Lib.hid (fun (k : Nat) (hk : k < m) => show ∀ w, (Instr.index 9 (.string s) (.int .i64 (k : Int))).run Try.prog w = .ok (.int .u8 ((nm.getD k 0).toNat : Int)) w from fun w => by rw [← hnm]; exact str_index s k (by rw [hnm, HML.out]; exact hk) w)
  have HNL := Lib.hid hns
  have HB0 := Lib.hid hb
  have HC := Lib.hid hc
  have HO := Lib.hid (own_empty w 5 w.heap.size (Nat.le_refl _))
  have HB := Lib.hid (hb.below (B := w.heap.size) ((Below.refl _ _).alloc (Nat.le_refl _) (.cells #[] 5)) (Nat.le_refl _))
  have mi : (m : Int) ≤ 200 := by omega
  have d1 : decide ((2147483647 : Int) < (m : Int)) = false := by simp; omega
  have d2 : decide ((200 : Int) < (m : Int)) = false := by simp; omega
  have d3 : ((16 : Int) != 16) = false := rfl
  clear hns hb hc hnm hR hn
  go_enter Try.func3, Try.ntmps3
  go_wp2_with (refine wpList_appB rfl (.tmp 36) (.tmp 37) 22 rfl w.heap.size 5 Try.underlying22 Try.info8 _ 0 [] (by rfl) HO.out A 16 c ns (by rfl) HB.out HNL.out HC.out (by omega) (by simp) ?_)
  intro v1 w1 o1 g1
  have O1 := Lib.hid o1
  have B1 := Lib.hid (((Below.refl w.heap.size w).alloc (Nat.le_refl _) (.cells #[] 5)).grown g1 (by simp) (by simp [Value.ownBlock]))
  clear o1 g1
  go_wp2
  go_loopw [7, 41] (fun v i wr => ∃ k : Nat, k ≤ m ∧ i = .int .i64 k ∧ wr.ownsRow w.heap.size 5 1 v (16 + k) ((ns ++ nm.take k).map B8) ∧ Below w.heap.size w wr) (fun _ i _ => m - (intOf i).toNat)
  case atStart => exact ⟨0, by omega, rfl, by rw [List.take_zero, List.append_nil]; exact O1.out, B1.out⟩
  case round =>
    obtain ⟨k, hk, rfl, hown, hbel⟩ := hrel
    have HOW := Lib.hid hown
    have HBE := Lib.hid hbel
    clear hown hbel
    by_cases hlt : k < m
    · have ix := HX.out k hlt
      have TK := Lib.hid (take_one nm k (by rw [HML.out]; exact hlt))
      obtain ⟨x, hx⟩ : ∃ x, x = nm.getD k 0 := ⟨_, rfl⟩
      rw [← hx] at ix TK
      have q1 : (k : Int) < (m : Int) := by omega
      have BB := Lib.hid (byte_build x)
      clear hx
      go_wp2_with (refine wpList_buildS rfl 22 5 1 _ #[(0, .int .u8 (x.toNat : Int))] rfl (by first | rfl | simp [Act.eval]) ([x].map B8) BB.out ?_)
      intro w4 h4
      have A4 := Lib.hid h4.at_
      have O4 := Lib.hid (HOW.out.kept h4.grown (by cases u7.ownBlock <;> simp))
      have B4 := Lib.hid (h4.below HBE.out HBE.out.size)
      have OB := Lib.hid (own_block O4.out)
      clear h4
      go_wp2_with (refine wpList_appB rfl (.tmp 44) (.tmp 48) 22 rfl w.heap.size 5 Try.underlying22 Try.info8 u7 (16 + k) (ns ++ nm.take k) (by rfl) O4.out (some ⟨wr.heap.size, 0, none⟩) 1 1 [x] (by rfl) A4.out.byt rfl (by simp) (by omega) B4.out.size ?_)
      intro v5 w5 o5 g5
      have O5 := Lib.hid (show w5.ownsRow w.heap.size 5 1 v5 (16 + k + 1) ((ns ++ nm.take (k + 1)).map B8) by rw [← TK.out]; simpa using o5)
      have B5 := Lib.hid (show Below w.heap.size w w5 from B4.out.grown g5 B4.out.size OB.out)
      clear o5 g5
      go_wp2
      go_roundw
      case rel => exact ⟨k + 1, by omega, by go_num, O5.out, B5.out⟩
      case measure => simp [intOf]; omega
    · obtain rfl : k = m := by omega
      have o6 := HOW.out
      rw [show nm.take k = nm by rw [← HML.out, List.take_length]] at o6
      obtain ⟨en, gd, cd, hv6, hg6, by6⟩ := own_byt o6 (by omega)
      have CD := Lib.hid (own_cap o6 gd cd hv6)
      have BY6 := Lib.hid by6
      subst hv6
      clear o6 en hg6 by6
      go_wp2_with fail
      refine (UN.out wr (HB0.out.below HBE.out (Nat.le_refl _))).mono ?_
      rintro e w5 ⟨gu, cu, rfl, h1, h2, h3, h4⟩
      rw [HFL.out] at h1 ⊢
      have U1 := Lib.hid h1
      have U3 := Lib.hid h3
      have U4 := Lib.hid h4
      clear h1 h2 h3 h4
      go_wp2_with fail
      refine (IS.out gd cd CD.out w5 (BY6.out.below U4.out (Nat.le_refl _))).mono ?_
      rintro e w6 ⟨gs, cs, rfl, h1, h2, h3, h4⟩
      rw [HRL.out] at h1 ⊢
      have S1 := Lib.hid h1
      have S3 := Lib.hid h3
      have S4 := Lib.hid h4
      clear h1 h2 h3 h4
      go_wp2_with fail
      refine (form_any (some ⟨gs, 0, none⟩) 20 cs (by decide) R HRL.out 5 (by decide) (by simp) w6 S3.out S1.out).mono ?_
      rintro e w7 ⟨v, rfl, ⟨gf, cf, rfl, h1, h2⟩, h3⟩
      rw [HFL.out]
      have F2 := Lib.hid h2
      have F3 := Lib.hid h3
      clear h1 h2 h3
      go_wp2_with fail
      refine (same_any (some ⟨gu, 0, none⟩) (some ⟨gf, 0, none⟩) 16 16 cu cf (formN (R.take 16) 5) (formN (R.take 16) 5) HFL.out HFL.out (by omega) w7 ((U3.out.below S4.out (Nat.le_refl _)).below F3.out (Nat.le_refl _)) F2.out).mono ?_
      rw [sameB_self]
      intro e w8 h
      obtain ⟨rfl, bel8⟩ := h.below
      have B8' := Lib.hid bel8
      clear h bel8
      go_wp2
      go_ret
      have b5 : Below w.heap.size w w5 := HBE.out.trans (U4.out.mono HBE.out.size)
      have b6 : Below w.heap.size w w6 := b5.trans (S4.out.mono b5.size)
      have b7 : Below w.heap.size w w7 := b6.trans (F3.out.mono b6.size)
      exact ⟨rfl, b7.trans (B8'.out.mono b7.size)⟩
set_option maxRecDepth 100000 in
theorem named_no (a0 : Int) (A : Option Addr) (n c : Nat) (s : ByteArray) (m : Nat) (hm : s.size = m) (h : ¬ (n = 16 ∧ m ≤ 200 ∧ (a0 = 3 ∨ a0 = 5))) (w : World) :
    Calls Try.prog 3 #[.int .i64 a0, .slice A n c, .string s] w fun e w' => e = .returned (.bool true) ∧ Below w.heap.size w w' := by
  by_cases b1 : (2147483647 : Int) < (n : Int)
  · have d1 : decide ((2147483647 : Int) < (n : Int)) = true := by simp; omega
    clear h
    go_enter Try.func3, Try.ntmps3
    go_wp2
    go_ret
    exact ⟨rfl, Below.refl _ _⟩
  have d1 : decide ((2147483647 : Int) < (n : Int)) = false := by simp; omega
  by_cases b2 : (2147483647 : Int) < (m : Int)
  · have d2 : decide ((2147483647 : Int) < (m : Int)) = true := by simp; omega
    clear h
    go_enter Try.func3, Try.ntmps3
    go_wp2
    go_ret
    exact ⟨rfl, Below.refl _ _⟩
  have d2 : decide ((2147483647 : Int) < (m : Int)) = false := by simp; omega
  by_cases b3 : n = 16
  · subst b3
    have d3 : ((16 : Int) != 16) = false := rfl
    by_cases b4 : m ≤ 200
    · have d4 : decide ((200 : Int) < (m : Int)) = false := by simp; omega
      have d5 : (a0 != 3) = true := by rw [bne_iff_ne]; exact fun e => h ⟨rfl, b4, .inl e⟩
      have d6 : (a0 != 5) = true := by rw [bne_iff_ne]; exact fun e => h ⟨rfl, b4, .inr e⟩
      clear h
      go_enter Try.func3, Try.ntmps3
      go_wp2
      go_ret
      exact ⟨rfl, Below.refl _ _⟩
    · have d4 : decide ((200 : Int) < (m : Int)) = true := by simp; omega
      clear h
      go_enter Try.func3, Try.ntmps3
      go_wp2
      go_ret
      exact ⟨rfl, Below.refl _ _⟩
  · have d3 : ((n : Int) != 16) = true := by rw [bne_iff_ne]; omega
    clear h
    go_enter Try.func3, Try.ntmps3
    go_wp2
    go_ret
    exact ⟨rfl, Below.refl _ _⟩
theorem walk_FnUuidNamed (a0 : Int) (a1 : Option Addr) (len1 cap1 : Nat) (z1 : List Int) (a2 : ByteArray) (w : World) (w0 : (Lit.int .i64 a0).wf = true) (w1 : IsRow .u8 w a1 len1 cap1 z1) (w2 : a2.size ≤ maxLen) :
    Calls Try.prog 3 #[.int .i64 a0, .slice a1 len1 cap1, .string a2] w fun e w' => e = .returned (.bool true) ∧ Below w.heap.size w w' := by
  obtain ⟨bs, h1, h2, h3, h4⟩ := bytes_of_row w1
  by_cases h : len1 = 16 ∧ a2.size ≤ 200 ∧ (a0 = 3 ∨ a0 = 5)
  · obtain ⟨rfl, hn, rfl | rfl⟩ := h
    · exact named_law_3 a1 cap1 h3 bs h1 a2 _ rfl hn w h2
    · exact named_law_5 a1 cap1 h3 bs h1 a2 _ rfl hn w h2
  · exact named_no a0 a1 len1 cap1 a2 _ rfl h w
end Go.Proofs.Ytahkgkonpjimpaa
