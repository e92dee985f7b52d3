/-
  NewV4.
-/
import Derived.Test.YtbojjpgekbljfaaMaker
import Derived.Test.YtbojjpgekbljfaaReadFull
import Derived.Test.YtbojjpgekbljfaaNewV8
namespace Go.Proofs.Ytbojjpgekbljfaa
open Go.RowKit
set_option linter.unusedVariables false
def V4C (g f b : Nat) (K ER : Value) (j : Nat) (x : Value) : Prop :=
  match j with
  | 0 => x = .pointer (some ⟨g, 0, none⟩)
  | 1 => x = .pointer (some ⟨g, 0, none⟩)
  | 2 => x = .pointer (some ⟨g, 2, none⟩)
  | 3 => x = rdV f
  | 4 => x = .slice (some ⟨b, 0, none⟩) 16 16
  | 5 => x = .tuple #[K, ER]
  | 6 => x = .tuple #[K, ER]
  | 7 => x = K
  | 8 => x = ER
  | 9 => x = K
  | 10 => x = ER
  | _ => True
def V4N (g f b : Nat) (j : Nat) (x : Value) : Prop :=
  match j with
  | 0 => x = .pointer (some ⟨g, 0, none⟩)
  | 1 => x = .pointer (some ⟨g, 0, none⟩)
  | 2 => x = .pointer (some ⟨g, 2, none⟩)
  | 3 => x = rdV f
  | 4 => x = .slice (some ⟨b, 0, none⟩) 16 16
  | 5 => ∃ K E, x = .tuple #[K, .iface 100 E]
  | 6 => ∃ K E, x = .tuple #[K, .iface 100 E]
  | 8 => ∃ E, x = .iface 100 E
  | 10 => ∃ E, x = .iface 100 E
  | _ => True
theorem readFull_no (w0 w : World) (f b o n c : Nat) (t : TypeId) (cur : List Value) (ds : List UInt8) (hn : 0 < n) (hd : ds.length < n) (hnl : n ≤ 70000) (hnc : n ≤ c) (hfit : o + n ≤ cur.length) (hf : FeedAt w0 w f ds) (hb : At w b t cur) (hfb : f ≠ b) (h0 : Below w0.heap.size w0 w) :
    Calls Try.prog 51 #[.iface 76 (.pointer (some ⟨f, 0, none⟩)), .slice (some ⟨b, o, none⟩) n c] w (ReadNo w f b t cur.length) := by
  rcases Nat.eq_zero_or_pos ds.length with h | h
  · obtain rfl := List.eq_nil_of_length_eq_zero h
    exact readFull_nil w0 w f b o n c t cur hn hnl hnc hf hb
  · exact readFull_few w0 w f b o n c t cur ds ds.length rfl h hd hnl hnc hfit hf hb hfb h0
theorem splice_len16 (Z : List Value) (D : List UInt8) (hz : Z.length = 16) (hd : D.length = 16) : splice Z 0 (D.map B8) = D.map B8 := splice_all _ _ (by simp [hz, hd])
set_option maxRecDepth 100000 in
theorem newV4_yes (w0 w : World) (g f : Nat) (ep hw : Value) (ds : List UInt8) (hd : 16 ≤ ds.length) (hdl : ds.length ≤ 70000) (hg : At w g 97 (genB (rdV f) ep hw)) (hf : FeedAt w0 w f ds) (hfg : f ≠ g) (h0 : Below w0.heap.size w0 w) (g0 : w0.heap.size ≤ g) (f0 : w0.heap.size ≤ f) :
    Calls Try.prog 37 #[.pointer (some ⟨g, 0, none⟩)] w (fun e w' => e = .returned (.tuple #[.agg ((formN (ds.take 16) 4).map B8).toArray, .nilIface]) ∧ Below w0.heap.size w0 w') := by
  have bz : ∀ w, (Instr.build 56 #[]).run Try.prog w = .ok (.agg (z16.map B8).toArray) w := fun w => by kernel_rfl
  obtain ⟨Z, hZ⟩ : ∃ Z, Z = z16.map B8 := ⟨_, rfl⟩
  have hz : ∀ w, (zeroValue 56).run Try.prog w = .ok (.agg Z.toArray) w := hZ ▸ Try.zeroU
  have HZ := Lib.hid (show Z.length = 16 by simp [hZ, z16])
  have HZ1 := Lib.hid (show ∀ v ∈ Z, v.oneCell' = true from hZ ▸ B8_one z16)
  have HZS := Lib.hid (show (Try.prog.info? 56).map (·.size) = some Z.length by rw [HZ.out]; exact Try.sizeU)
  have FN := Lib.hid (show ∀ w, Calls Try.prog 44 #[] w fun e w' => e = .returned (.agg Z.toArray) ∧ Below w.heap.size w w' from fun w => hZ ▸ nilU_any w)
  rw [← hZ] at bz
  have HG := Lib.hid hg
  have HF := Lib.hid hf
  have H0 := Lib.hid h0
  clear hZ hg hf h0
  go_enter Try.func37, Try.ntmps37
  go_wp2_with (refine wpList_var rfl 56 rfl (.agg Z.toArray) Z hz rfl ?_)
  intro w1 h1
  have H1 := Lib.hid h1
  clear h1
  go_wp2_with (first
    | (refine wpList_build0 rfl 56 rfl (.agg Z.toArray) bz ?_)
    | (refine wpList_var rfl 56 rfl (.agg Z.toArray) Z hz rfl ?_))
  intro w2 h2
  have H2 := Lib.hid h2
  clear h2
  go_wp2_with (refine wpList_put rfl 56 (.tmp 4) (.tmp 7) rfl w1.heap.size Z (by rfl) (by rfl) 56 Z H2.out.at_ HZS.out rfl HZ1.out ?_)
  intro w3 h3
  have s1 := Lib.hid (show w1.heap.size = w.heap.size + 1 from H1.out.size)
  have s2 := Lib.hid (show w2.heap.size = w1.heap.size + 1 from H2.out.size)
  have s3 := Lib.hid (show w3.heap.size = w2.heap.size from h3.size)
  have H3 := Lib.hid h3
  have G3 := Lib.hid (h3.keep (H2.out.keep (H1.out.keep HG.out)) (by have := HG.out.lt; have := s1.out; omega))
  have O3 := Lib.hid (h3.keep (H2.out.keep H1.out.at_) (by have := s1.out; omega))
  have B3 := Lib.hid (h3.below (H2.out.below (H1.out.below (Below.refl w.heap.size w) (Nat.le_refl _)) (by have := s1.out; omega)) (by have := s1.out; have := s2.out; omega) (by have := s1.out; omega))
  have F3 := Lib.hid (HF.out.eq (B3.out.block f HF.out.lt))
  have Z3 := Lib.hid (H0.out.trans (B3.out.mono H0.out.size))
  have LG := Lib.hid HG.out.lt
  have LF := Lib.hid HF.out.lt
  clear h3 hz bz
  obtain ⟨b, hb⟩ : ∃ b, b = w1.heap.size := ⟨_, rfl⟩
  have HB := Lib.hid hb
  have A3 := Lib.hid (show At w3 b 56 Z from hb ▸ H3.out.at_)
  rw [← hb]
  clear hb
  go_wp2_with fail
  obtain ⟨D, hD⟩ : ∃ D, D = ds.take 16 := ⟨_, rfl⟩
  have LD := Lib.hid (show D.length = 16 by rw [hD, List.length_take]; omega)
  have HD := Lib.hid hD
  have SP := Lib.hid (show splice Z 0 ((ds.take 16).map B8) = D.map B8 by rw [← hD]; exact splice_len16 Z D HZ.out LD.out)
  have NGB := Lib.hid (show g ≠ b by have := HB.out; have := s1.out; have := LG.out; omega)
  have NFB := Lib.hid (show f ≠ b by have := HB.out; have := s1.out; have := LF.out; omega)
  clear hD
  have R := Lib.hid (fun m => readFull_yes w0 (w3.drewN m) f b 0 16 16 56 Z ds (by omega) hd hdl (by omega) (by rw [HZ.out]; omega) F3.out A3.out NFB.out (below_drewN Z3.out m))
  refine wp_region_rj (fun v => ⟨#[Value.pointer (some { block := g, off := 0 }), undef, Value.pointer (some { block := w.heap.size, off := 0 }), Value.nilIface, Value.pointer (some { block := b, off := 0 }), v 9, v 10, Value.agg Z.toArray, v 6, v 0, v 1, v 2, v 3, v 4, v 5, v 7, v 8, undef, undef, undef, undef, undef, undef, undef], []⟩) (V4C g f b (.int .i64 16) .nilIface)
    (fun d x => At x g 97 (genB (rdV f) ep hw) ∧ if d then FeedAt w0 x f (ds.drop 16) ∧ At x b 56 (D.map B8) ∧ Two w3 x f b else x = w3.drewN 1) 5
    (fun j => undef) [0, 1, 2, 3, 4, 5, 6, 7, 8, 9, 10] (by kernel_rfl) (by kernel_rfl) (by kernel_rfl) (by decide) rfl ⟨G3.out, rfl⟩ ?_ ?_
  · refine AllI.cons ?_ (AllI.cons ?_ (AllI.cons ?_ (AllI.cons ?_ (AllI.cons ?_ (AllI.cons ?_ (AllI.cons ?_ (AllI.cons ?_ (AllI.cons ?_ (AllI.cons ?_ (AllI.cons ?_ AllI.nil))))))))))
    · refine stepRJ [] rfl rfl rfl (by kernel_rfl) fun d v y hv hS K hK => ?_
      clear hS
      go_simp
      exact hK.out _ _ (by simp [upd]; try rfl) rfl
    · refine stepRJ [0] rfl rfl rfl (by kernel_rfl) fun d v y hv hS K hK => ?_
      clear hS
      have e0 := hv 0 rfl
      simp only [V4C] at e0
      go_simp
      exact hK.out _ _ (by simp [upd, e0]; try rfl) rfl
    · refine stepRJ [1] rfl rfl rfl (by kernel_rfl) fun d v y hv hS K hK => ?_
      clear hS
      have e1 := hv 1 rfl
      simp only [V4C] at e1
      go_simp
      exact hK.out _ _ (by simp [upd, e1]; try rfl) rfl
    · refine stepRJ [2] rfl rfl rfl (by kernel_rfl) fun d v y hv hS K hK => ?_
      have k1 := hS.1.cell 2 (by simp [genB])
      simp only [genB, List.getElem_cons_succ, List.getElem_cons_zero] at k1
      clear hS
      have e2 := hv 2 rfl
      simp only [V4C] at e2
      go_simp
      exact hK.out _ _ (by simp [upd, e2]; try rfl) rfl
    · refine stepRJ [] rfl rfl rfl (by kernel_rfl) fun d v y hv hS K hK => ?_
      clear hS
      go_simp
      exact hK.out _ _ (by simp [upd]; try rfl) rfl
    · refine stepRJc [3, 4] rfl rfl (by kernel_rfl) fun v y hv hS K hK => ?_
      have e3 := hv 3 rfl
      have e4 := hv 4 rfl
      simp only [V4C] at e3 e4
      have hS2 : y = w3.drewN 1 := hS.2
      subst hS2
      clear hS
      go_simp
      go_at_call 51
      refine (R.out 1).mono ?_
      rintro e y' ⟨rfl, r1, r2, r3⟩
      have R1 := Lib.hid r1
      have R2 := Lib.hid (show At y' b 56 (D.map B8) by rw [← SP.out]; exact r2)
      have R3 := Lib.hid (show Two w3 y' f b from ⟨r3.os, r3.tape, r3.output, r3.size, r3.block⟩)
      clear r1 r2 r3
      go_wp2_with fail
      exact hK.out _ _ _ (by simp [upd, e3, e4]) rfl ⟨R3.out.at_ G3.out (Ne.symm hfg) NGB.out, R1.out, R2.out, R3.out⟩
    · refine stepRJ [5] rfl rfl rfl (by kernel_rfl) fun d v y hv hS K hK => ?_
      clear hS
      have e5 := hv 5 rfl
      simp only [V4C] at e5
      go_simp
      exact hK.out _ _ (by simp [upd, e5]; try rfl) rfl
    · refine stepRJ [6] rfl rfl rfl (by kernel_rfl) fun d v y hv hS K hK => ?_
      clear hS
      have e6 := hv 6 rfl
      simp only [V4C] at e6
      go_simp
      exact hK.out _ _ (by simp [upd, e6]; try rfl) rfl
    · refine stepRJ [6] rfl rfl rfl (by kernel_rfl) fun d v y hv hS K hK => ?_
      clear hS
      have e6 := hv 6 rfl
      simp only [V4C] at e6
      go_simp
      exact hK.out _ _ (by simp [upd, e6]; try rfl) rfl
    · refine stepRJ [7] rfl rfl rfl (by kernel_rfl) fun d v y hv hS K hK => ?_
      clear hS
      have e7 := hv 7 rfl
      simp only [V4C] at e7
      go_simp
      exact hK.out _ _ (by simp [upd, e7]; try rfl) rfl
    · refine stepRJ [8] rfl rfl rfl (by kernel_rfl) fun d v y hv hS K hK => ?_
      clear hS
      have e8 := hv 8 rfl
      simp only [V4C] at e8
      go_simp
      exact hK.out _ _ (by simp [upd, e8]; try rfl) rfl
  · intro v y hv hS
    obtain ⟨-, r1, r2, r3⟩ : At y g 97 (genB (rdV f) ep hw) ∧ FeedAt w0 y f (ds.drop 16) ∧ At y b 56 (D.map B8) ∧ Two w3 y f b := hS
    have R2 := Lib.hid r2
    have R3 := Lib.hid r3
    have e9 : v 9 = .int .i64 16 := hv 9 (by decide)
    have e10 : v 10 = .nilIface := hv 10 (by decide)
    rw [e9, e10]
    clear hv r1 r2 r3 e9 e10
    have BY := Lib.hid (R3.out.below Z3.out Z3.out.size f0 (by have := HB.out; have := s1.out; have := H0.out.size; omega))
    have OY := Lib.hid (R3.out.at_ O3.out (by have := LF.out; omega) (by have := HB.out; have := s1.out; omega))
    have NWB := Lib.hid (show w.heap.size ≠ b by have := HB.out; have := s1.out; omega)
    have SB := Lib.hid (show w0.heap.size ≤ b by have := HB.out; have := s1.out; have := H0.out.size; omega)
    go_wp2_with fail
    refine (setVersion_any b 56 D LD.out 4 y R2.out).mono ?_
    obtain ⟨D2, hD2⟩ : ∃ D2, D2 = D.set 6 (setVer (D.getD 6 0) 4) := ⟨_, rfl⟩
    rw [← hD2]
    have LD2 := Lib.hid (show D2.length = 16 by rw [hD2, List.length_set, LD.out])
    obtain ⟨D3, hD3⟩ : ∃ D3, D3 = D2.set 8 (setVar (D2.getD 8 0) (varMask 1) (varBits 1)) := ⟨_, rfl⟩
    have LD3 := Lib.hid (show D3.length = 16 by rw [hD3, List.length_set, LD2.out])
    have EF := Lib.hid (show formN D 4 = D3 by rw [formN, hD3, hD2]; simp [List.getD])
    have ED := Lib.hid hD3
    have HBS := Lib.hid (sizeU_of D3 LD3.out)
    clear hD2 hD3
    rintro e w6 ⟨rfl, h6⟩
    have H6 := Lib.hid h6
    have B6 := Lib.hid (h6.below BY.out BY.out.size SB.out)
    have O6 := Lib.hid (h6.keep OY.out NWB.out)
    clear h6
    go_wp2_with fail
    refine (setVariant_1 b 56 D2 LD2.out w6 H6.out.at_).mono ?_
    rw [← ED.out]
    rintro e w7 ⟨rfl, h7⟩
    have H7 := Lib.hid h7
    have B7 := Lib.hid (h7.below B6.out B6.out.size SB.out)
    have O7 := Lib.hid (h7.keep O6.out NWB.out)
    clear h7
    go_wp2_with (first
      | (refine wpList_get rfl 56 (.tmp 4) rfl b (by rfl) 56 (D3.map B8) _ H7.out.at_ Try.underlying56 rfl HBS.out ?_)
      | (refine wpList_put rfl 56 (.tmp 2) (.tmp 23) rfl w.heap.size (D3.map B8) (by rfl) (by rfl) 56 Z O7.out HBS.out (by rw [HZ.out, List.length_map, LD3.out]) (B8_one _) ?_))
    intro w8 h8
    have H8 := Lib.hid h8
    clear h8
    go_wp2
    refine ret_cell_tmp 2 56 3 rfl w.heap.size 56 (D3.map B8) _ .nilIface rfl rfl H8.out.at_ Try.underlying56 rfl HBS.out rfl ?_
    exact ⟨by rw [← HD.out, EF.out], H8.out.below B7.out B7.out.size H0.out.size⟩
set_option maxRecDepth 100000 in
theorem newV4_no (w0 w : World) (g f : Nat) (ep hw : Value) (ds : List UInt8) (hd : ds.length < 16) (hdl : ds.length ≤ 70000) (hg : At w g 97 (genB (rdV f) ep hw)) (hf : FeedAt w0 w f ds) (hfg : f ≠ g) (h0 : Below w0.heap.size w0 w) (g0 : w0.heap.size ≤ g) (f0 : w0.heap.size ≤ f) :
    Calls Try.prog 37 #[.pointer (some ⟨g, 0, none⟩)] w (fun e w' => (∃ cs x, e = .returned (.tuple #[.agg cs, .iface 100 x])) ∧ Below w0.heap.size w0 w') := by
  have bz : ∀ w, (Instr.build 56 #[]).run Try.prog w = .ok (.agg (z16.map B8).toArray) w := fun w => by kernel_rfl
  obtain ⟨Z, hZ⟩ : ∃ Z, Z = z16.map B8 := ⟨_, rfl⟩
  have hz : ∀ w, (zeroValue 56).run Try.prog w = .ok (.agg Z.toArray) w := hZ ▸ Try.zeroU
  have HZ := Lib.hid (show Z.length = 16 by simp [hZ, z16])
  have HZ1 := Lib.hid (show ∀ v ∈ Z, v.oneCell' = true from hZ ▸ B8_one z16)
  have HZS := Lib.hid (show (Try.prog.info? 56).map (·.size) = some Z.length by rw [HZ.out]; exact Try.sizeU)
  have FN := Lib.hid (show ∀ w, Calls Try.prog 44 #[] w fun e w' => e = .returned (.agg Z.toArray) ∧ Below w.heap.size w w' from fun w => hZ ▸ nilU_any w)
  rw [← hZ] at bz
  have HG := Lib.hid hg
  have HF := Lib.hid hf
  have H0 := Lib.hid h0
  clear hZ hg hf h0
  go_enter Try.func37, Try.ntmps37
  go_wp2_with (refine wpList_var rfl 56 rfl (.agg Z.toArray) Z hz rfl ?_)
  intro w1 h1
  have H1 := Lib.hid h1
  clear h1
  go_wp2_with (first
    | (refine wpList_build0 rfl 56 rfl (.agg Z.toArray) bz ?_)
    | (refine wpList_var rfl 56 rfl (.agg Z.toArray) Z hz rfl ?_))
  intro w2 h2
  have H2 := Lib.hid h2
  clear h2
  go_wp2_with (refine wpList_put rfl 56 (.tmp 4) (.tmp 7) rfl w1.heap.size Z (by rfl) (by rfl) 56 Z H2.out.at_ HZS.out rfl HZ1.out ?_)
  intro w3 h3
  have s1 := Lib.hid (show w1.heap.size = w.heap.size + 1 from H1.out.size)
  have s2 := Lib.hid (show w2.heap.size = w1.heap.size + 1 from H2.out.size)
  have s3 := Lib.hid (show w3.heap.size = w2.heap.size from h3.size)
  have H3 := Lib.hid h3
  have G3 := Lib.hid (h3.keep (H2.out.keep (H1.out.keep HG.out)) (by have := HG.out.lt; have := s1.out; omega))
  have O3 := Lib.hid (h3.keep (H2.out.keep H1.out.at_) (by have := s1.out; omega))
  have B3 := Lib.hid (h3.below (H2.out.below (H1.out.below (Below.refl w.heap.size w) (Nat.le_refl _)) (by have := s1.out; omega)) (by have := s1.out; have := s2.out; omega) (by have := s1.out; omega))
  have F3 := Lib.hid (HF.out.eq (B3.out.block f HF.out.lt))
  have Z3 := Lib.hid (H0.out.trans (B3.out.mono H0.out.size))
  have LG := Lib.hid HG.out.lt
  have LF := Lib.hid HF.out.lt
  clear h3 hz bz
  obtain ⟨b, hb⟩ : ∃ b, b = w1.heap.size := ⟨_, rfl⟩
  have HB := Lib.hid hb
  have A3 := Lib.hid (show At w3 b 56 Z from hb ▸ H3.out.at_)
  rw [← hb]
  clear hb
  go_wp2_with fail
  have NGB := Lib.hid (show g ≠ b by have := HB.out; have := s1.out; have := LG.out; omega)
  have NFB := Lib.hid (show f ≠ b by have := HB.out; have := s1.out; have := LF.out; omega)
  have R := Lib.hid (fun m => readFull_no w0 (w3.drewN m) f b 0 16 16 56 Z ds (by omega) hd (by omega) (by omega) (by rw [HZ.out]; omega) F3.out A3.out NFB.out (below_drewN Z3.out m))
  refine wp_region_rj (fun v => ⟨#[Value.pointer (some { block := g, off := 0 }), undef, Value.pointer (some { block := w.heap.size, off := 0 }), Value.nilIface, Value.pointer (some { block := b, off := 0 }), v 9, v 10, Value.agg Z.toArray, v 6, v 0, v 1, v 2, v 3, v 4, v 5, v 7, v 8, undef, undef, undef, undef, undef, undef, undef], []⟩) (V4N g f b)
    (fun d x => At x g 97 (genB (rdV f) ep hw) ∧ if d then Two w3 x f b else x = w3.drewN 1) 5
    (fun j => undef) [0, 1, 2, 3, 4, 5, 6, 7, 8, 9, 10] (by kernel_rfl) (by kernel_rfl) (by kernel_rfl) (by decide) rfl ⟨G3.out, rfl⟩ ?_ ?_
  · refine AllI.cons ?_ (AllI.cons ?_ (AllI.cons ?_ (AllI.cons ?_ (AllI.cons ?_ (AllI.cons ?_ (AllI.cons ?_ (AllI.cons ?_ (AllI.cons ?_ (AllI.cons ?_ (AllI.cons ?_ AllI.nil))))))))))
    · refine stepRJ [] rfl rfl rfl (by kernel_rfl) fun d v y hv hS K hK => ?_
      clear hS
      go_simp
      exact hK.out _ _ (by simp [upd]; try rfl) rfl
    · refine stepRJ [0] rfl rfl rfl (by kernel_rfl) fun d v y hv hS K hK => ?_
      clear hS
      have e0 := hv 0 rfl
      simp only [V4N] at e0
      go_simp
      exact hK.out _ _ (by simp [upd, e0]; try rfl) rfl
    · refine stepRJ [1] rfl rfl rfl (by kernel_rfl) fun d v y hv hS K hK => ?_
      clear hS
      have e1 := hv 1 rfl
      simp only [V4N] at e1
      go_simp
      exact hK.out _ _ (by simp [upd, e1]; try rfl) rfl
    · refine stepRJ [2] rfl rfl rfl (by kernel_rfl) fun d v y hv hS K hK => ?_
      have k1 := hS.1.cell 2 (by simp [genB])
      simp only [genB, List.getElem_cons_succ, List.getElem_cons_zero] at k1
      clear hS
      have e2 := hv 2 rfl
      simp only [V4N] at e2
      go_simp
      exact hK.out _ _ (by simp [upd, e2]; try rfl) rfl
    · refine stepRJ [] rfl rfl rfl (by kernel_rfl) fun d v y hv hS K hK => ?_
      clear hS
      go_simp
      exact hK.out _ _ (by simp [upd]; try rfl) rfl
    · refine stepRJc [3, 4] rfl rfl (by kernel_rfl) fun v y hv hS K hK => ?_
      have e3 := hv 3 rfl
      have e4 := hv 4 rfl
      simp only [V4N] at e3 e4
      have hS2 : y = w3.drewN 1 := hS.2
      subst hS2
      clear hS
      go_simp
      go_at_call 51
      refine (R.out 1).mono ?_
      rintro e y' ⟨⟨K', E', rfl⟩, -, r3⟩
      have R3 := Lib.hid (show Two w3 y' f b from ⟨r3.os, r3.tape, r3.output, r3.size, r3.block⟩)
      clear r3
      go_wp2_with fail
      exact hK.out _ (.tuple #[K', .iface 100 E']) _ (by simp [upd, e3, e4]) ⟨K', E', rfl⟩ ⟨R3.out.at_ G3.out (Ne.symm hfg) NGB.out, R3.out⟩
    · refine stepRJ [5] rfl rfl rfl (by kernel_rfl) fun d v y hv hS K hK => ?_
      clear hS
      obtain ⟨K', E', e5⟩ := hv 5 rfl
      go_simp
      exact hK.out _ (.tuple #[K', .iface 100 E']) (by simp [upd, e5]) ⟨K', E', rfl⟩
    · refine stepRJ [6] rfl rfl rfl (by kernel_rfl) fun d v y hv hS K hK => ?_
      clear hS
      obtain ⟨K', E', e6⟩ := hv 6 rfl
      go_simp
      exact hK.out _ _ (by simp [upd, e6]; try rfl) trivial
    · refine stepRJ [6] rfl rfl rfl (by kernel_rfl) fun d v y hv hS K hK => ?_
      clear hS
      obtain ⟨K', E', e6⟩ := hv 6 rfl
      go_simp
      exact hK.out _ _ (by simp [upd, e6]; try rfl) ⟨_, rfl⟩
    · refine stepRJ [7] rfl rfl rfl (by kernel_rfl) fun d v y hv hS K hK => ?_
      clear hS
      go_simp
      exact hK.out _ _ (by simp [upd]; try rfl) trivial
    · refine stepRJ [8] rfl rfl rfl (by kernel_rfl) fun d v y hv hS K hK => ?_
      clear hS
      obtain ⟨E', e8⟩ := hv 8 rfl
      go_simp
      exact hK.out _ _ (by simp [upd, e8]; try rfl) ⟨_, rfl⟩
  · intro v y hv hS
    have R3 := Lib.hid (show Two w3 y f b from hS.2)
    obtain ⟨E', e10⟩ : ∃ E', v 10 = .iface 100 E' := hv 10 (by decide)
    rw [e10]
    clear hv e10 hS
    have BY := Lib.hid (R3.out.below Z3.out Z3.out.size f0 (by have := HB.out; have := s1.out; have := H0.out.size; omega))
    have OY := Lib.hid (R3.out.at_ O3.out (by have := LF.out; omega) (by have := HB.out; have := s1.out; omega))
    go_wp2_with fail
    refine (FN.out y).mono ?_
    rintro e y2 ⟨rfl, b2⟩
    have B2 := Lib.hid (BY.out.trans (b2.mono BY.out.size))
    have O2 := Lib.hid (OY.out.below b2 OY.out.lt)
    clear b2
    go_wp2_with (refine wpList_put rfl 56 (.tmp 2) (.tmp 19) rfl w.heap.size Z (by rfl) (by rfl) 56 Z O2.out HZS.out rfl HZ1.out ?_)
    intro w8 h8
    have H8 := Lib.hid h8
    clear h8
    go_wp2
    refine ret_cell_tmp 2 56 3 rfl w.heap.size 56 Z _ _ rfl rfl H8.out.at_ Try.underlying56 rfl HZS.out rfl ?_
    exact ⟨⟨_, _, rfl⟩, H8.out.below B2.out B2.out.size H0.out.size⟩
end Go.Proofs.Ytbojjpgekbljfaa
