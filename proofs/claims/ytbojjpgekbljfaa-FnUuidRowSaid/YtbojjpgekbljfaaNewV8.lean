/-
  NewV8, and the thin package's UuidOwn.
-/
import Derived.Test.YtbojjpgekbljfaaNewGen
import Derived.Test.YtbojjpgekbljfaaSet
import Derived.Test.YtbojjpgekbljfaaForm
namespace Go.Proofs.Ytbojjpgekbljfaa
open Go.RowKit
set_option linter.unusedVariables false
def v8N (a b c : List UInt8) : List UInt8 := formN (a ++ b ++ c) 8
def V8Ok (bs : List UInt8) (w : World) (e : Ending) (w' : World) : Prop := e = .returned (.tuple #[.agg (bs.map B8).toArray, .nilIface]) ∧ Below w.heap.size w w'
def V8No (w : World) (e : Ending) (w' : World) : Prop := ∃ (cs : Array Value) (T : TypeId) (x : Value), e = .returned (.tuple #[.agg cs, .iface T x]) ∧ Below w.heap.size w w'
theorem splice_len {α : Type} (L : List α) (o : Nat) (cs : List α) (h : o + cs.length ≤ L.length) : (splice L o cs).length = L.length := by
  unfold splice
  simp
  omega
theorem spl3 (Z : List Value) (a b c : List UInt8) (hz : Z.length = 16) (ha : a.length = 6) (hb : b.length = 2) (hc : c.length = 8) :
    splice (splice (splice Z 0 (a.map B8)) 6 (b.map B8)) 8 (c.map B8) = (a ++ b ++ c).map B8 := by
  have e1 : splice Z 0 (a.map B8) = a.map B8 ++ Z.drop 6 := by simp [splice, ha]
  have e2 : splice (a.map B8 ++ Z.drop 6) 6 (b.map B8) = a.map B8 ++ b.map B8 ++ Z.drop 8 := by
    simp only [splice, List.length_map, hb]
    rw [List.take_append_of_le_length (by simp; omega), List.take_of_length_le (by simp; omega), List.drop_append]
    simp [ha]
  have e3 : splice (a.map B8 ++ b.map B8 ++ Z.drop 8) 8 (c.map B8) = a.map B8 ++ b.map B8 ++ c.map B8 := by
    simp only [splice, List.length_map, hc]
    rw [List.take_append_of_le_length (by simp; omega), List.take_of_length_le (by simp; omega), List.drop_append]
    simp [ha, hb, hz]
  rw [e1, e2, e3]
  simp
set_option maxRecDepth 100000 in
theorem newV8_yes (q : Option Addr) (A B C : Option Addr) (ca cb cc : Nat) (a b c : List UInt8) (ha : a.length = 6) (hb : b.length = 2) (hc : c.length = 8) (w : World) (ba : Byt w A a) (bb : Byt w B b) (bc : Byt w C c) :
    Calls Try.prog 36 #[.pointer q, .slice A 6 ca, .slice B 2 cb, .slice C 8 cc] w (V8Ok (v8N a b c) w) := by
  obtain ⟨Z, hZ⟩ : ∃ Z, Z = z16.map B8 := ⟨_, rfl⟩
  have hz : ∀ w, (zeroValue 56).run Try.prog w = .ok (.agg Z.toArray) w := hZ ▸ Try.zeroU
  have HZ := Lib.hid (show Z.length = 16 by simp [hZ, z16])
  have HA := Lib.hid ha
  have HB := Lib.hid hb
  have HC := Lib.hid hc
  have BA := Lib.hid ba
  have BB := Lib.hid bb
  have BC := Lib.hid bc
  obtain ⟨R, hR⟩ : ∃ R, R = v8N a b c := ⟨_, rfl⟩
  have HR := Lib.hid hR
  have LR := Lib.hid (show R.length = 16 by rw [hR, v8N, formN, List.length_set, List.length_set]; simp; omega)
  have HBS := Lib.hid (sizeU_of R LR.out)
  rw [← hR]
  have HZP := Lib.hid hZ
  clear hZ ha hb hc ba bb bc hR
  go_enter Try.func36, Try.ntmps36
  go_wp2_with (refine wpList_var rfl 56 rfl (.agg Z.toArray) Z hz rfl ?_)
  intro w1 h1
  have H1 := Lib.hid h1
  clear h1
  go_wp2_with (refine wpList_var rfl 56 rfl (.agg Z.toArray) Z hz rfl ?_)
  intro w2 h2
  have H2 := Lib.hid h2
  have b2 := h2.below (H1.out.below (Below.refl w.heap.size w) (Nat.le_refl _)) (by have := H1.out.size; omega)
  have B2 := Lib.hid b2
  have O2 := Lib.hid (h2.keep H1.out.at_)
  clear h2 b2
  go_wp2_with (refine wpList_copyB rfl (.tmp 26) (.tmp 27) 22 22 rfl 5 Try.underlying22 Try.size8 w1.heap.size 0 6 16 6 ca A (by rfl) (by rfl) Z 56 H2.out.at_ a (BA.out.below B2.out (Nat.le_refl _)) HA.out 6 (by rfl) a (by rw [List.take_of_length_le]; exact Nat.le_of_eq HA.out) (by rw [HZ.out]; omega) ?_)
  intro w3 h3
  have L3 := Lib.hid (show (splice Z 0 (a.map B8)).length = 16 by rw [splice_len _ _ _ (by simp; have := HA.out; have := HZ.out; omega), HZ.out])
  have H3 := Lib.hid h3
  have s1 := Lib.hid (show w1.heap.size = w.heap.size + 1 from H1.out.size)
  have B3 := Lib.hid (h3.below B2.out (by have := B2.out.size; have := H2.out.size; omega) (by have := s1.out; omega))
  have O3 := Lib.hid (h3.keep O2.out (by have := s1.out; omega))
  clear h3
  go_wp2_with (refine wpList_copyB rfl (.tmp 29) (.tmp 30) 22 22 rfl 5 Try.underlying22 Try.size8 w1.heap.size 6 2 10 2 cb B (by rfl) (by rfl) _ 56 H3.out.at_ b (BB.out.below B3.out (Nat.le_refl _)) HB.out 2 (by rfl) b (by rw [List.take_of_length_le]; exact Nat.le_of_eq HB.out) (by rw [L3.out]; omega) ?_)
  intro w4 h4
  have L4 := Lib.hid (show (splice (splice Z 0 (a.map B8)) 6 (b.map B8)).length = 16 by rw [splice_len _ _ _ (by simp; have := HB.out; have := L3.out; omega), L3.out])
  have H4 := Lib.hid h4
  have B4 := Lib.hid (h4.below B3.out B3.out.size (by have := s1.out; omega))
  have O4 := Lib.hid (h4.keep O3.out (by have := s1.out; omega))
  clear h4
  go_wp2_with (refine wpList_copyB rfl (.tmp 32) (.tmp 33) 22 22 rfl 5 Try.underlying22 Try.size8 w1.heap.size 8 8 8 8 cc C (by rfl) (by rfl) _ 56 H4.out.at_ c (BC.out.below B4.out (Nat.le_refl _)) HC.out 8 (by rfl) c (by rw [List.take_of_length_le]; exact Nat.le_of_eq HC.out) (by rw [L4.out]; omega) ?_)
  intro w5 h5
  rw [spl3 Z a b c HZ.out HA.out HB.out HC.out] at h5
  obtain ⟨D, hD⟩ : ∃ D, D = a ++ b ++ c := ⟨_, rfl⟩
  rw [← hD] at h5
  have LD := Lib.hid (show D.length = 16 by rw [hD]; simp; have := HA.out; have := HB.out; have := HC.out; omega)
  have RD := Lib.hid (show R = (D.set 6 (setVer (D.getD 6 0) 8)).set 8 (setVar ((D.set 6 (setVer (D.getD 6 0) 8)).getD 8 0) (varMask 1) (varBits 1)) by
    rw [HR.out, v8N, formN, ← hD]
    congr 2
    simp [List.getD])
  have H5 := Lib.hid h5
  have B5 := Lib.hid (h5.below B4.out B4.out.size (by have := s1.out; omega))
  have O5 := Lib.hid (h5.keep O4.out (by have := s1.out; omega))
  clear h5 hD
  go_wp2_with fail
  refine (setVersion_any w1.heap.size 56 D LD.out 8 w5 H5.out.at_).mono ?_
  obtain ⟨D2, hD2⟩ : ∃ D2, D2 = D.set 6 (setVer (D.getD 6 0) 8) := ⟨_, rfl⟩
  rw [← hD2]
  have LD2 := Lib.hid (show D2.length = 16 by rw [hD2, List.length_set, LD.out])
  have E2 := Lib.hid hD2
  clear hD2
  rintro e w6 ⟨rfl, h6⟩
  have H6 := Lib.hid h6
  have B6 := Lib.hid (h6.below B5.out B5.out.size (by have := s1.out; omega))
  have O6 := Lib.hid (h6.keep O5.out (by have := s1.out; omega))
  clear h6
  go_wp2_with fail
  refine (setVariant_1 w1.heap.size 56 D2 LD2.out w6 H6.out.at_).mono ?_
  rw [E2.out, ← RD.out]
  rintro e w7 ⟨rfl, h7⟩
  have H7 := Lib.hid h7
  have B7 := Lib.hid (h7.below B6.out B6.out.size (by have := s1.out; omega))
  have O7 := Lib.hid (h7.keep O6.out (by have := s1.out; omega))
  clear h7
  go_wp2_with (first
    | (refine wpList_get rfl 56 (.tmp 10) rfl w1.heap.size (by rfl) 56 (R.map B8) _ H7.out.at_ Try.underlying56 rfl HBS.out ?_)
    | (refine wpList_put rfl 56 (.tmp 8) (.tmp 37) rfl w.heap.size (R.map B8) (by rfl) (by rfl) 56 Z O7.out HBS.out (by rw [HZ.out, List.length_map, LR.out]) (B8_one _) ?_))
  intro w8 h8
  have H8 := Lib.hid h8
  clear h8
  go_wp2
  refine ret_cell_tmp 8 56 9 rfl w.heap.size 56 (R.map B8) _ .nilIface rfl rfl H8.out.at_ Try.underlying56 rfl HBS.out rfl ?_
  exact ⟨rfl, H8.out.below B7.out B7.out.size (Nat.le_refl _)⟩
set_option maxRecDepth 100000 in
theorem nilU_any (w : World) : Calls Try.prog 44 #[] w fun e w' => e = .returned (.agg (z16.map B8).toArray) ∧ Below w.heap.size w w' := by
  have bz : ∀ w, (Instr.build 56 #[]).run Try.prog w = .ok (.agg (z16.map B8).toArray) w := fun w => by kernel_rfl
  obtain ⟨cs, hcs⟩ : ∃ cs, cs = z16.map B8 := ⟨_, rfl⟩
  have HL := Lib.hid (show cs.length = 16 by rw [hcs]; rfl)
  have H1 := Lib.hid (show ∀ v ∈ cs, v.oneCell' = true from hcs ▸ B8_one z16)
  have HBS := Lib.hid (show (Try.prog.info? 56).map (·.size) = some cs.length by rw [HL.out]; exact Try.sizeU)
  rw [← hcs] at bz ⊢
  obtain ⟨Z, hZ⟩ : ∃ Z, Z = z16.map B8 := ⟨_, rfl⟩
  have hz : ∀ w, (zeroValue 56).run Try.prog w = .ok (.agg Z.toArray) w := hZ ▸ Try.zeroU
  have HZ := Lib.hid (show Z.length = 16 by simp [hZ, z16])
  clear hcs hZ
  go_enter Try.func44, Try.ntmps44
  go_wp2_with (refine wpList_var rfl 56 rfl (.agg Z.toArray) Z hz rfl ?_)
  intro w1 hw1
  have HW1 := Lib.hid hw1
  clear hw1 hz
  go_wp2_with (first
    | (refine wpList_build0 rfl 56 rfl (.agg cs.toArray) bz ?_)
    | (refine wpList_put rfl 56 (.tmp 0) (.tmp 1) rfl w.heap.size cs (by rfl) (by rfl) 56 Z HW1.out.at_ HBS.out (by rw [HZ.out, HL.out]) H1.out ?_))
  intro w4 hw4
  have HW4 := Lib.hid hw4
  clear hw4
  go_wp2
  refine ret_cell 0 56 rfl w.heap.size 56 cs _ rfl HW4.out.at_ Try.underlying56 rfl HBS.out rfl ⟨rfl, ?_⟩
  exact HW4.out.below (HW1.out.below (Below.refl _ _) (Nat.le_refl _)) (by have := HW1.out.size; omega) (Nat.le_refl _)
set_option maxRecDepth 100000 in
theorem newV8_no1 (q : Option Addr) (A B C : Option Addr) (na nb nc ca cb cc : Nat) (h : na ≠ 6) (w : World) :
    Calls Try.prog 36 #[.pointer q, .slice A na ca, .slice B nb cb, .slice C nc cc] w (V8No w) := by
  obtain ⟨Z, hZ⟩ : ∃ Z, Z = z16.map B8 := ⟨_, rfl⟩
  have hz : ∀ w, (zeroValue 56).run Try.prog w = .ok (.agg Z.toArray) w := hZ ▸ Try.zeroU
  have HZ := Lib.hid (show Z.length = 16 by simp [hZ, z16])
  have HZ1 := Lib.hid (show ∀ v ∈ Z, v.oneCell' = true from hZ ▸ B8_one z16)
  have HBS := Lib.hid (show (Try.prog.info? 56).map (·.size) = some Z.length by rw [HZ.out]; exact Try.sizeU)
  have F := Lib.hid (show ∀ w, Calls Try.prog 44 #[] w fun e w' => e = .returned (.agg Z.toArray) ∧ Below w.heap.size w w' from fun w => hZ ▸ nilU_any w)
  clear hZ
  have t : ((na : Int) != 6) = true := by rw [bne_iff_ne]; omega
  go_enter Try.func36, Try.ntmps36
  go_wp2_with (refine wpList_var rfl 56 rfl (.agg Z.toArray) Z hz rfl ?_)
  intro w1 h1
  have H1 := Lib.hid h1
  clear h1
  go_wp2_with (refine wpList_var rfl 56 rfl (.agg Z.toArray) Z hz rfl ?_)
  intro w2 h2
  have H2 := Lib.hid h2
  have B2 := Lib.hid (h2.below (H1.out.below (Below.refl w.heap.size w) (Nat.le_refl _)) (by have := H1.out.size; omega))
  have O2 := Lib.hid (h2.keep H1.out.at_)
  clear h2
  go_wp2_with fail
  refine (F.out w2).mono ?_
  rintro e w3 ⟨rfl, b3⟩
  have B3 := Lib.hid b3
  clear b3
  go_wp2_with (refine wpList_put rfl 56 (.tmp 8) (.tmp 14) rfl w.heap.size Z (by rfl) (by rfl) 56 Z (O2.out.below B3.out (by have := H1.out.size; have := H2.out.size; omega)) HBS.out rfl HZ1.out ?_)
  intro w8 h8
  have H8 := Lib.hid h8
  clear h8
  go_wp2
  refine ret_cell_tmp 8 56 9 rfl w.heap.size 56 Z _ _ rfl rfl H8.out.at_ Try.underlying56 rfl HBS.out rfl ?_
  have B4 := B2.out.trans (B3.out.mono B2.out.size)
  exact ⟨_, _, _, rfl, H8.out.below B4 B4.size (Nat.le_refl _)⟩
set_option maxRecDepth 100000 in
theorem newV8_no2 (q : Option Addr) (A B C : Option Addr) (na nb nc ca cb cc : Nat) (h1 : na = 6) (h : nb ≠ 2) (w : World) :
    Calls Try.prog 36 #[.pointer q, .slice A na ca, .slice B nb cb, .slice C nc cc] w (V8No w) := by
  obtain ⟨Z, hZ⟩ : ∃ Z, Z = z16.map B8 := ⟨_, rfl⟩
  have hz : ∀ w, (zeroValue 56).run Try.prog w = .ok (.agg Z.toArray) w := hZ ▸ Try.zeroU
  have HZ := Lib.hid (show Z.length = 16 by simp [hZ, z16])
  have HZ1 := Lib.hid (show ∀ v ∈ Z, v.oneCell' = true from hZ ▸ B8_one z16)
  have HBS := Lib.hid (show (Try.prog.info? 56).map (·.size) = some Z.length by rw [HZ.out]; exact Try.sizeU)
  have F := Lib.hid (show ∀ w, Calls Try.prog 44 #[] w fun e w' => e = .returned (.agg Z.toArray) ∧ Below w.heap.size w w' from fun w => hZ ▸ nilU_any w)
  clear hZ
  subst h1
  have t : ((nb : Int) != 2) = true := by rw [bne_iff_ne]; omega
  go_enter Try.func36, Try.ntmps36
  go_wp2_with (refine wpList_var rfl 56 rfl (.agg Z.toArray) Z hz rfl ?_)
  intro w1 h1
  have H1 := Lib.hid h1
  clear h1
  go_wp2_with (refine wpList_var rfl 56 rfl (.agg Z.toArray) Z hz rfl ?_)
  intro w2 h2
  have H2 := Lib.hid h2
  have B2 := Lib.hid (h2.below (H1.out.below (Below.refl w.heap.size w) (Nat.le_refl _)) (by have := H1.out.size; omega))
  have O2 := Lib.hid (h2.keep H1.out.at_)
  clear h2
  go_wp2_with fail
  refine (F.out w2).mono ?_
  rintro e w3 ⟨rfl, b3⟩
  have B3 := Lib.hid b3
  clear b3
  go_wp2_with (refine wpList_put rfl 56 (.tmp 8) (.tmp 19) rfl w.heap.size Z (by rfl) (by rfl) 56 Z (O2.out.below B3.out (by have := H1.out.size; have := H2.out.size; omega)) HBS.out rfl HZ1.out ?_)
  intro w8 h8
  have H8 := Lib.hid h8
  clear h8
  go_wp2
  refine ret_cell_tmp 8 56 9 rfl w.heap.size 56 Z _ _ rfl rfl H8.out.at_ Try.underlying56 rfl HBS.out rfl ?_
  have B4 := B2.out.trans (B3.out.mono B2.out.size)
  exact ⟨_, _, _, rfl, H8.out.below B4 B4.size (Nat.le_refl _)⟩
set_option maxRecDepth 100000 in
theorem newV8_no3 (q : Option Addr) (A B C : Option Addr) (na nb nc ca cb cc : Nat) (h1 : na = 6) (h2 : nb = 2) (h : nc ≠ 8) (w : World) :
    Calls Try.prog 36 #[.pointer q, .slice A na ca, .slice B nb cb, .slice C nc cc] w (V8No w) := by
  obtain ⟨Z, hZ⟩ : ∃ Z, Z = z16.map B8 := ⟨_, rfl⟩
  have hz : ∀ w, (zeroValue 56).run Try.prog w = .ok (.agg Z.toArray) w := hZ ▸ Try.zeroU
  have HZ := Lib.hid (show Z.length = 16 by simp [hZ, z16])
  have HZ1 := Lib.hid (show ∀ v ∈ Z, v.oneCell' = true from hZ ▸ B8_one z16)
  have HBS := Lib.hid (show (Try.prog.info? 56).map (·.size) = some Z.length by rw [HZ.out]; exact Try.sizeU)
  have F := Lib.hid (show ∀ w, Calls Try.prog 44 #[] w fun e w' => e = .returned (.agg Z.toArray) ∧ Below w.heap.size w w' from fun w => hZ ▸ nilU_any w)
  clear hZ
  subst h1 h2
  have t : ((nc : Int) != 8) = true := by rw [bne_iff_ne]; omega
  go_enter Try.func36, Try.ntmps36
  go_wp2_with (refine wpList_var rfl 56 rfl (.agg Z.toArray) Z hz rfl ?_)
  intro w1 h1
  have H1 := Lib.hid h1
  clear h1
  go_wp2_with (refine wpList_var rfl 56 rfl (.agg Z.toArray) Z hz rfl ?_)
  intro w2 h2
  have H2 := Lib.hid h2
  have B2 := Lib.hid (h2.below (H1.out.below (Below.refl w.heap.size w) (Nat.le_refl _)) (by have := H1.out.size; omega))
  have O2 := Lib.hid (h2.keep H1.out.at_)
  clear h2
  go_wp2_with fail
  refine (F.out w2).mono ?_
  rintro e w3 ⟨rfl, b3⟩
  have B3 := Lib.hid b3
  clear b3
  go_wp2_with (refine wpList_put rfl 56 (.tmp 8) (.tmp 24) rfl w.heap.size Z (by rfl) (by rfl) 56 Z (O2.out.below B3.out (by have := H1.out.size; have := H2.out.size; omega)) HBS.out rfl HZ1.out ?_)
  intro w8 h8
  have H8 := Lib.hid h8
  clear h8
  go_wp2
  refine ret_cell_tmp 8 56 9 rfl w.heap.size 56 Z _ _ rfl rfl H8.out.at_ Try.underlying56 rfl HBS.out rfl ?_
  have B4 := B2.out.trans (B3.out.mono B2.out.size)
  exact ⟨_, _, _, rfl, H8.out.below B4 B4.size (Nat.le_refl _)⟩
theorem newV8_no (q : Option Addr) (A B C : Option Addr) (na nb nc ca cb cc : Nat) (h : ¬ (na = 6 ∧ nb = 2 ∧ nc = 8)) (w : World) :
    Calls Try.prog 36 #[.pointer q, .slice A na ca, .slice B nb cb, .slice C nc cc] w (V8No w) := by
  by_cases h1 : na = 6
  · by_cases h2 : nb = 2
    · exact newV8_no3 q A B C na nb nc ca cb cc h1 h2 (fun h3 => h ⟨h1, h2, h3⟩) w
    · exact newV8_no2 q A B C na nb nc ca cb cc h1 h2 w
  · exact newV8_no1 q A B C na nb nc ca cb cc h1 w
set_option maxRecDepth 100000 in
theorem uuidOwn_yes (A B C : Option Addr) (ca cb cc : Nat) (a b c : List UInt8) (ha : a.length = 6) (hb : b.length = 2) (hc : c.length = 8) (w : World) (ba : Byt w A a) (bb : Byt w B b) (bc : Byt w C c) :
    Calls Try.prog 17 #[.slice A 6 ca, .slice B 2 cb, .slice C 8 cc] w (ToldOk (v8N a b c) w) := by
  have LR := Lib.hid (show (v8N a b c).length = 16 by rw [v8N, formN, List.length_set, List.length_set]; simp; omega)
  have F := Lib.hid (fun q w' (h : Below w.heap.size w w') => newV8_yes q A B C ca cb cc a b c ha hb hc w' (ba.below h (Nat.le_refl _)) (bb.below h (Nat.le_refl _)) (bc.below h (Nat.le_refl _)))
  obtain ⟨R, hR⟩ : ∃ R, R = v8N a b c := ⟨_, rfl⟩
  rw [← hR] at LR F ⊢
  clear ha hb hc ba bb bc hR
  go_enter Try.func17, Try.ntmps17
  go_wp2_with fail
  refine (newGen_any w).mono ?_
  rintro e w1 ⟨g, rfl, -, -, b1⟩
  have B1 := Lib.hid b1
  clear b1
  go_wp2_with fail
  refine (F.out (some ⟨g, 0, none⟩) w1 B1.out).mono ?_
  rintro e w2 ⟨rfl, b2⟩
  have B2 := Lib.hid (B1.out.trans (b2.mono B1.out.size))
  clear b2
  go_wp2_with fail
  refine (told_yes R LR.out w2).mono ?_
  rintro e w3 ⟨v, rfl, ⟨g', cap, rfl, h1, h2⟩, b3⟩
  have B3 := Lib.hid (B2.out.trans (b3.mono B2.out.size))
  have G := Lib.hid (Nat.le_trans B2.out.size h1)
  have H2 := Lib.hid h2
  clear h1 h2 b3
  go_wp2
  go_ret2
  exact ⟨_, rfl, ⟨g', cap, rfl, G.out, H2.out⟩, B3.out⟩
set_option maxRecDepth 100000 in
theorem uuidOwn_no (A B C : Option Addr) (na nb nc ca cb cc : Nat) (h : ¬ (na = 6 ∧ nb = 2 ∧ nc = 8)) (w : World) :
    Calls Try.prog 17 #[.slice A na ca, .slice B nb cb, .slice C nc cc] w fun e w' => e = .returned (.tuple #[.slice none 0 0, .bool false]) ∧ Below w.heap.size w w' := by
  have F := Lib.hid (fun q w' => newV8_no q A B C na nb nc ca cb cc h w')
  clear h
  go_enter Try.func17, Try.ntmps17
  go_wp2_with fail
  refine (newGen_any w).mono ?_
  rintro e w1 ⟨g, rfl, -, -, b1⟩
  have B1 := Lib.hid b1
  clear b1
  go_wp2_with fail
  refine (F.out (some ⟨g, 0, none⟩) w1).mono ?_
  rintro e w2 ⟨cs, T, x, rfl, b2⟩
  have B2 := Lib.hid (B1.out.trans (b2.mono B1.out.size))
  clear b2
  go_wp2_with fail
  refine (told_no cs T x w2).mono ?_
  rintro e w3 ⟨rfl, b3⟩
  have B3 := Lib.hid (B2.out.trans (b3.mono B2.out.size))
  clear b3
  go_wp2
  go_ret2
  exact ⟨rfl, B3.out⟩
end Go.Proofs.Ytbojjpgekbljfaa
