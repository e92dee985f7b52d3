/-
  The thin package's UuidNamed.
-/
import Derived.Test.YtahkgkonpjimpaaNewV5
import Derived.Test.YtahkgkonpjimpaaNewGenD
import Derived.Test.YtahkgkonpjimpaaToldD
import Derived.Test.YtahkgkonpjimpaaFromBytes
namespace Go.Proofs.Ytahkgkonpjimpaa
open Go.RowKit
set_option linter.unusedVariables false
section
def NmC (cs : List Value) (s : ByteArray) (D : List UInt8) (w0 : World) (j : Nat) (x : Value) (w : World) : Prop :=
  match j with
  | 0 => ∃ g, x = .pointer (some ⟨g, 0, none⟩)
  | 1 => x = .agg cs.toArray
  | 2 => x = .string s
  | 3 => x = .agg (D.map B8).toArray
  | 4 => ∃ g c, x = .tuple #[.slice (some ⟨g, 0, none⟩) 16 c, .bool true] ∧ 16 ≤ c ∧ w0.heap.size ≤ g ∧ Byt w (some ⟨g, 0, none⟩) D
  | 5 => ∃ g c, x = .slice (some ⟨g, 0, none⟩) 16 c ∧ 16 ≤ c ∧ w0.heap.size ≤ g ∧ Byt w (some ⟨g, 0, none⟩) D
  | 6 => x = .bool true
  | 7 => ∃ g c, x = .slice (some ⟨g, 0, none⟩) 16 c ∧ 16 ≤ c ∧ w0.heap.size ≤ g ∧ Byt w (some ⟨g, 0, none⟩) D
  | 8 => x = .bool true
  | _ => True
def NmS (cs : List Value) (t : TypeId) (gi : Nat) (w0 w : World) : Prop := At w gi t cs ∧ Below w0.heap.size w0 w
theorem NmC.below {cs : List Value} {s : ByteArray} {D : List UInt8} {w0 w w' : World} (h : Below w.heap.size w w') (j : Nat) (x : Value) (hc : NmC cs s D w0 j x w) : NmC cs s D w0 j x w' := by
  unfold NmC at *
  split <;> simp only at hc ⊢ <;> try exact hc
  all_goals
    obtain ⟨g, c, h1, h2, h3, h4⟩ := hc
    exact ⟨g, c, h1, h2, h3, h4.below h (Nat.le_refl _)⟩
theorem NmS.below {cs : List Value} {t : TypeId} {gi : Nat} {w0 w w' : World} (h : Below w.heap.size w w') (hs : NmS cs t gi w0 w) : NmS cs t gi w0 w' :=
  ⟨hs.1.below h hs.1.lt, hs.2.trans (h.mono hs.2.size)⟩
end
set_option maxRecDepth 100000 in
set_option maxHeartbeats 4000000 in
theorem uuidNamed_3 (A : Option Addr) (c : Nat) (ns nm : List UInt8) (hns : ns.length = 16) (s : ByteArray) (hnm : s.data.toList = nm) (hn : nm.length ≤ 200) (w : World) (hb : Byt w A ns) :
    Calls Try.prog 4 #[.int .i64 3, .slice A 16 c, .string s] w (ToldC (formN ((sumM (ns ++ nm)).take 16) 3) w) := by
  obtain ⟨D, hD⟩ : ∃ D, D = formN ((sumM (ns ++ nm)).take 16) 3 := ⟨_, rfl⟩
  have hDl : D.length = 16 := by rw [hD]; unfold formN; rw [List.length_set, List.length_set]; simp [sumM, le4B]
  obtain ⟨Z, hZ⟩ : ∃ Z, Z = z16.map B8 := ⟨_, rfl⟩
  have hz : ∀ w, (zeroValue 30).run Try.prog w = .ok (.agg Z.toArray) w := hZ ▸ Try.zeroU
  have HZ := Lib.hid (show Z.length = 16 by simp [hZ, z16])
  obtain ⟨cs, hcs⟩ : ∃ cs, cs = ns.map B8 := ⟨_, rfl⟩
  have HBS := Lib.hid (show (Try.prog.info? 30).map (·.size) = some cs.length by rw [hcs]; exact sizeU_of ns hns)
  have LC := Lib.hid (show cs.length = 16 by rw [hcs, List.length_map, hns])
  have OC := Lib.hid (show ∀ v ∈ cs, v.oneCell' = true by rw [hcs]; exact B8_one ns)
  have NV := Lib.hid (show ∀ (p : Value) (w : World), Calls Try.prog 11 #[p, .agg cs.toArray, .string s] w fun e w' => e = .returned (.agg (D.map B8).toArray) ∧ Below w.heap.size w w' from fun p w => by rw [hcs, hD]; exact newV3_any p ns nm hns s hnm hn w)
  have TL := Lib.hid (show ∀ (w : World), Calls Try.prog 9 #[.agg (D.map B8).toArray, .nilIface] w (ToldC D w) from fun w => told_cap D hDl w)
  have FB := Lib.hid (show ∀ w, Byt w A ns → Calls Try.prog 8 #[.slice A 16 c] w fun e w' => e = .returned (.tuple #[.agg cs.toArray, .nilIface]) ∧ Below w.heap.size w w' from fun w hb => by rw [hcs]; exact fromBytes_yes A 16 c ns rfl hns w hb)
  have HB := Lib.hid hb
  have HDL := Lib.hid hDl
  rw [← hD]
  clear hD hDl hZ hcs hb hns hnm hn
  go_enter Try.func4, Try.ntmps4
  go_wp2_with fail
  refine (FB.out w HB.out).mono ?_
  rintro e w1 ⟨rfl, bel1⟩
  have E1 := Lib.hid bel1
  clear bel1
  go_wp2_with (refine wpList_var rfl 30 rfl (.agg Z.toArray) Z hz rfl ?_)
  intro w2 h2
  have H2 := Lib.hid h2
  clear h2 hz
  go_wp2_with (refine wpList_put rfl 30 (.tmp 8) (.tmp 13) rfl w1.heap.size cs (by rfl) (by rfl) 30 Z H2.out.at_ HBS.out (by rw [HZ.out, LC.out]) OC.out ?_)
  intro w3 h3
  obtain ⟨gi, hgi⟩ : ∃ gi, gi = w1.heap.size := ⟨_, rfl⟩
  have S3 := Lib.hid (show NmS cs 30 gi w w3 from hgi ▸ ⟨h3.at_, h3.below (H2.out.below E1.out E1.out.size) (by have := E1.out.size; have := H2.out.size; omega) E1.out.size⟩)
  clear h3
  rw [← hgi]
  clear hgi
  go_wp2_with fail
  have hu := Lib.hid Try.underlying30
  refine wp_region_inv (RI (fun v => ⟨#[Value.int IntKind.i64 3, Value.slice A 16 c, Value.string s, undef, undef, undef, v 7, v 8, Value.pointer (some { block := gi, off := 0 }), Value.nilIface, Value.tuple #[Value.agg cs.toArray, Value.nilIface], Value.slice A 16 c, Value.tuple #[Value.agg cs.toArray, Value.nilIface], Value.agg cs.toArray, Value.nilIface, Value.nilIface, Value.bool false, Value.int IntKind.i64 3, Value.bool true, Value.bool true, v 0, v 1, v 2, v 3, v 4, v 5, v 6, undef, undef, undef, undef, undef, undef, undef, undef, undef], []⟩) (NmC cs s D w) (NmS cs 30 gi w))
    [0, 1, 2, 3, 4, 5, 6, 7, 8] (by kernel_rfl) (by kernel_rfl) (by kernel_rfl) ?_ ?_ ?_
  · exact ⟨fun j => if j = 7 then .slice none 0 0 else if j = 8 then .bool false else undef, rfl, (fun j hj => by rw [getD_replicate_false] at hj; cases hj), (show NmS cs 30 gi w w3 from S3.out).below (below_drewN (Below.refl _ _) 1)⟩
  · refine AllI.cons ?_ (AllI.cons ?_ (AllI.cons ?_ (AllI.cons ?_ (AllI.cons ?_ (AllI.cons ?_ (AllI.cons ?_ (AllI.cons ?_ (AllI.cons ?_ AllI.nil))))))))
    · refine stepRI [] rfl rfl (by kernel_rfl) fun v u hv hS K hK => ?_
      go_simp
      go_at_call 10
      refine (newGen_any u).mono ?_
      rintro e u' ⟨g, rfl, hg1, hg2, b4⟩
      have B4 := Lib.hid b4
      clear hg1 hg2 b4
      go_wp2_with fail
      exact hK.out _ _ _ rfl (fun j x _ h => NmC.below B4.out j x h) ⟨g, rfl⟩ (hS.below B4.out)
    · refine stepRI [] rfl rfl (by kernel_rfl) fun v u hv hS K hK => ?_
      have hi := HBS.out
      have hu' := hu.out
      refine wp_load_mid _ _ rfl _ _ rfl _ _ hS.1.range hu' rfl hi ?_
      exact hK.out _ _ _ rfl (fun _ _ _ h => h) rfl hS
    · refine stepRI [] rfl rfl (by kernel_rfl) fun v u hv hS K hK => ?_
      go_simp
      exact hK.out _ _ _ rfl (fun _ _ _ h => h) rfl hS
    · refine stepRI [0, 1, 2] rfl rfl (by kernel_rfl) fun v u hv hS K hK => ?_
      obtain ⟨g0, e0⟩ := hv 0 rfl
      have e1 : v 1 = .agg cs.toArray := hv 1 rfl
      have e2 : v 2 = .string s := hv 2 rfl
      go_simp
      go_at_call 11
      refine (NV.out _ _).mono ?_
      rintro e u' ⟨rfl, b4⟩
      have B4 := Lib.hid b4
      clear b4
      go_wp2_with fail
      exact hK.out _ _ _ (by simp [upd, e0, e1, e2]) (fun j x _ h => NmC.below B4.out j x h) rfl (hS.below B4.out)
    · refine stepRI [3] rfl rfl (by kernel_rfl) fun v u hv hS K hK => ?_
      have e3 : v 3 = .agg (D.map B8).toArray := hv 3 rfl
      have hS2 := Lib.hid hS
      go_simp
      go_at_call 9
      refine (TL.out _).mono ?_
      rintro e u' ⟨g, cp, rfl, hg1, hg2, hg3, b4⟩
      rw [HDL.out] at hg1 ⊢
      have B4 := Lib.hid b4
      have G3 := Lib.hid hg3
      have G1 := Lib.hid hg1
      have G2 := Lib.hid (Nat.le_trans hS2.out.2.size hg2)
      clear hg1 hg2 hg3 b4
      go_wp2_with fail
      exact hK.out _ _ _ (by simp [upd, e3]) (fun j x _ h => NmC.below B4.out j x h) ⟨g, cp, rfl, G1.out, G2.out, G3.out⟩ (hS2.out.below B4.out)
    · refine stepRI [4] rfl rfl (by kernel_rfl) fun v u hv hS K hK => ?_
      obtain ⟨g, cp, e4, h1, h2, h3⟩ := hv 4 rfl
      have X := Lib.hid (show NmC cs s D w 5 (.slice (some ⟨g, 0, none⟩) 16 cp) u from ⟨g, cp, rfl, h1, h2, h3⟩)
      clear h1 h2 h3
      go_simp
      exact hK.out _ _ _ (by simp [upd, e4]) (fun _ _ _ h => h) X.out hS
    · refine stepRI [4] rfl rfl (by kernel_rfl) fun v u hv hS K hK => ?_
      obtain ⟨g, cp, e4, h1, h2, h3⟩ := hv 4 rfl
      clear h1 h2 h3
      go_simp
      exact hK.out _ _ _ (by simp [upd, e4]) (fun _ _ _ h => h) rfl hS
    · refine stepRI [5] rfl rfl (by kernel_rfl) fun v u hv hS K hK => ?_
      obtain ⟨g, cp, e5, h1, h2, h3⟩ := hv 5 rfl
      have X := Lib.hid (show NmC cs s D w 7 (.slice (some ⟨g, 0, none⟩) 16 cp) u from ⟨g, cp, rfl, h1, h2, h3⟩)
      clear h1 h2 h3
      go_simp
      exact hK.out _ _ _ (by simp [upd, e5]) (fun _ _ _ h => h) X.out hS
    · refine stepRI [6] rfl rfl (by kernel_rfl) fun v u hv hS K hK => ?_
      have e6 : v 6 = .bool true := hv 6 rfl
      go_simp
      exact hK.out _ _ _ (by simp [upd, e6]) (fun _ _ _ h => h) rfl hS
  · intro li a u hall hI
    obtain ⟨v, rfl, hv, hS⟩ := hI
    obtain ⟨g, cp, e7, h1, h2, h3⟩ := hv 7 (hall 7 (by decide))
    have e8 : v 8 = .bool true := hv 8 (hall 8 (by decide))
    have HS' := Lib.hid hS
    have G1 := Lib.hid h1
    have G2 := Lib.hid h2
    have G3 := Lib.hid h3
    clear hv hall hS h1 h2 h3
    go_wp2
    go_ret2
    exact ⟨g, cp, by simp [e7, e8, HDL.out], by rw [HDL.out]; exact G1.out, G2.out, G3.out, HS'.out.2⟩
set_option maxRecDepth 100000 in
set_option maxHeartbeats 4000000 in
theorem uuidNamed_5 (A : Option Addr) (c : Nat) (ns nm : List UInt8) (hns : ns.length = 16) (s : ByteArray) (hnm : s.data.toList = nm) (hn : nm.length ≤ 200) (w : World) (hb : Byt w A ns) :
    Calls Try.prog 4 #[.int .i64 5, .slice A 16 c, .string s] w (ToldC (formN ((sumS1 (ns ++ nm)).take 16) 5) w) := by
  obtain ⟨D, hD⟩ : ∃ D, D = formN ((sumS1 (ns ++ nm)).take 16) 5 := ⟨_, rfl⟩
  have hDl : D.length = 16 := by rw [hD]; unfold formN; rw [List.length_set, List.length_set]; simp [sumS1, be4B]
  obtain ⟨Z, hZ⟩ : ∃ Z, Z = z16.map B8 := ⟨_, rfl⟩
  have hz : ∀ w, (zeroValue 30).run Try.prog w = .ok (.agg Z.toArray) w := hZ ▸ Try.zeroU
  have HZ := Lib.hid (show Z.length = 16 by simp [hZ, z16])
  obtain ⟨cs, hcs⟩ : ∃ cs, cs = ns.map B8 := ⟨_, rfl⟩
  have HBS := Lib.hid (show (Try.prog.info? 30).map (·.size) = some cs.length by rw [hcs]; exact sizeU_of ns hns)
  have LC := Lib.hid (show cs.length = 16 by rw [hcs, List.length_map, hns])
  have OC := Lib.hid (show ∀ v ∈ cs, v.oneCell' = true by rw [hcs]; exact B8_one ns)
  have NV := Lib.hid (show ∀ (p : Value) (w : World), Calls Try.prog 12 #[p, .agg cs.toArray, .string s] w fun e w' => e = .returned (.agg (D.map B8).toArray) ∧ Below w.heap.size w w' from fun p w => by rw [hcs, hD]; exact newV5_any p ns nm hns s hnm hn w)
  have TL := Lib.hid (show ∀ (w : World), Calls Try.prog 9 #[.agg (D.map B8).toArray, .nilIface] w (ToldC D w) from fun w => told_cap D hDl w)
  have FB := Lib.hid (show ∀ w, Byt w A ns → Calls Try.prog 8 #[.slice A 16 c] w fun e w' => e = .returned (.tuple #[.agg cs.toArray, .nilIface]) ∧ Below w.heap.size w w' from fun w hb => by rw [hcs]; exact fromBytes_yes A 16 c ns rfl hns w hb)
  have HB := Lib.hid hb
  have HDL := Lib.hid hDl
  rw [← hD]
  clear hD hDl hZ hcs hb hns hnm hn
  go_enter Try.func4, Try.ntmps4
  go_wp2_with fail
  refine (FB.out w HB.out).mono ?_
  rintro e w1 ⟨rfl, bel1⟩
  have E1 := Lib.hid bel1
  clear bel1
  go_wp2_with (refine wpList_var rfl 30 rfl (.agg Z.toArray) Z hz rfl ?_)
  intro w2 h2
  have H2 := Lib.hid h2
  clear h2 hz
  go_wp2_with (refine wpList_put rfl 30 (.tmp 8) (.tmp 13) rfl w1.heap.size cs (by rfl) (by rfl) 30 Z H2.out.at_ HBS.out (by rw [HZ.out, LC.out]) OC.out ?_)
  intro w3 h3
  obtain ⟨gi, hgi⟩ : ∃ gi, gi = w1.heap.size := ⟨_, rfl⟩
  have S3 := Lib.hid (show NmS cs 30 gi w w3 from hgi ▸ ⟨h3.at_, h3.below (H2.out.below E1.out E1.out.size) (by have := E1.out.size; have := H2.out.size; omega) E1.out.size⟩)
  clear h3
  rw [← hgi]
  clear hgi
  go_wp2_with fail
  have hu := Lib.hid Try.underlying30
  refine wp_region_inv (RI (fun v => ⟨#[Value.int IntKind.i64 5, Value.slice A 16 c, Value.string s, undef, undef, undef, v 7, v 8, Value.pointer (some { block := gi, off := 0 }), Value.nilIface, Value.tuple #[Value.agg cs.toArray, Value.nilIface], Value.slice A 16 c, Value.tuple #[Value.agg cs.toArray, Value.nilIface], Value.agg cs.toArray, Value.nilIface, Value.nilIface, Value.bool false, Value.int IntKind.i64 5, Value.bool false, Value.bool false, undef, undef, undef, undef, undef, undef, undef, Value.bool true, Value.bool true, v 0, v 1, v 2, v 3, v 4, v 5, v 6], []⟩) (NmC cs s D w) (NmS cs 30 gi w))
    [0, 1, 2, 3, 4, 5, 6, 7, 8] (by kernel_rfl) (by kernel_rfl) (by kernel_rfl) ?_ ?_ ?_
  · exact ⟨fun j => if j = 7 then .slice none 0 0 else if j = 8 then .bool false else undef, rfl, (fun j hj => by rw [getD_replicate_false] at hj; cases hj), (show NmS cs 30 gi w w3 from S3.out).below (below_drewN (Below.refl _ _) 1)⟩
  · refine AllI.cons ?_ (AllI.cons ?_ (AllI.cons ?_ (AllI.cons ?_ (AllI.cons ?_ (AllI.cons ?_ (AllI.cons ?_ (AllI.cons ?_ (AllI.cons ?_ AllI.nil))))))))
    · refine stepRI [] rfl rfl (by kernel_rfl) fun v u hv hS K hK => ?_
      go_simp
      go_at_call 10
      refine (newGen_any u).mono ?_
      rintro e u' ⟨g, rfl, hg1, hg2, b4⟩
      have B4 := Lib.hid b4
      clear hg1 hg2 b4
      go_wp2_with fail
      exact hK.out _ _ _ rfl (fun j x _ h => NmC.below B4.out j x h) ⟨g, rfl⟩ (hS.below B4.out)
    · refine stepRI [] rfl rfl (by kernel_rfl) fun v u hv hS K hK => ?_
      have hi := HBS.out
      have hu' := hu.out
      refine wp_load_mid _ _ rfl _ _ rfl _ _ hS.1.range hu' rfl hi ?_
      exact hK.out _ _ _ rfl (fun _ _ _ h => h) rfl hS
    · refine stepRI [] rfl rfl (by kernel_rfl) fun v u hv hS K hK => ?_
      go_simp
      exact hK.out _ _ _ rfl (fun _ _ _ h => h) rfl hS
    · refine stepRI [0, 1, 2] rfl rfl (by kernel_rfl) fun v u hv hS K hK => ?_
      obtain ⟨g0, e0⟩ := hv 0 rfl
      have e1 : v 1 = .agg cs.toArray := hv 1 rfl
      have e2 : v 2 = .string s := hv 2 rfl
      go_simp
      go_at_call 12
      refine (NV.out _ _).mono ?_
      rintro e u' ⟨rfl, b4⟩
      have B4 := Lib.hid b4
      clear b4
      go_wp2_with fail
      exact hK.out _ _ _ (by simp [upd, e0, e1, e2]) (fun j x _ h => NmC.below B4.out j x h) rfl (hS.below B4.out)
    · refine stepRI [3] rfl rfl (by kernel_rfl) fun v u hv hS K hK => ?_
      have e3 : v 3 = .agg (D.map B8).toArray := hv 3 rfl
      have hS2 := Lib.hid hS
      go_simp
      go_at_call 9
      refine (TL.out _).mono ?_
      rintro e u' ⟨g, cp, rfl, hg1, hg2, hg3, b4⟩
      rw [HDL.out] at hg1 ⊢
      have B4 := Lib.hid b4
      have G3 := Lib.hid hg3
      have G1 := Lib.hid hg1
      have G2 := Lib.hid (Nat.le_trans hS2.out.2.size hg2)
      clear hg1 hg2 hg3 b4
      go_wp2_with fail
      exact hK.out _ _ _ (by simp [upd, e3]) (fun j x _ h => NmC.below B4.out j x h) ⟨g, cp, rfl, G1.out, G2.out, G3.out⟩ (hS2.out.below B4.out)
    · refine stepRI [4] rfl rfl (by kernel_rfl) fun v u hv hS K hK => ?_
      obtain ⟨g, cp, e4, h1, h2, h3⟩ := hv 4 rfl
      have X := Lib.hid (show NmC cs s D w 5 (.slice (some ⟨g, 0, none⟩) 16 cp) u from ⟨g, cp, rfl, h1, h2, h3⟩)
      clear h1 h2 h3
      go_simp
      exact hK.out _ _ _ (by simp [upd, e4]) (fun _ _ _ h => h) X.out hS
    · refine stepRI [4] rfl rfl (by kernel_rfl) fun v u hv hS K hK => ?_
      obtain ⟨g, cp, e4, h1, h2, h3⟩ := hv 4 rfl
      clear h1 h2 h3
      go_simp
      exact hK.out _ _ _ (by simp [upd, e4]) (fun _ _ _ h => h) rfl hS
    · refine stepRI [5] rfl rfl (by kernel_rfl) fun v u hv hS K hK => ?_
      obtain ⟨g, cp, e5, h1, h2, h3⟩ := hv 5 rfl
      have X := Lib.hid (show NmC cs s D w 7 (.slice (some ⟨g, 0, none⟩) 16 cp) u from ⟨g, cp, rfl, h1, h2, h3⟩)
      clear h1 h2 h3
      go_simp
      exact hK.out _ _ _ (by simp [upd, e5]) (fun _ _ _ h => h) X.out hS
    · refine stepRI [6] rfl rfl (by kernel_rfl) fun v u hv hS K hK => ?_
      have e6 : v 6 = .bool true := hv 6 rfl
      go_simp
      exact hK.out _ _ _ (by simp [upd, e6]) (fun _ _ _ h => h) rfl hS
  · intro li a u hall hI
    obtain ⟨v, rfl, hv, hS⟩ := hI
    obtain ⟨g, cp, e7, h1, h2, h3⟩ := hv 7 (hall 7 (by decide))
    have e8 : v 8 = .bool true := hv 8 (hall 8 (by decide))
    have HS' := Lib.hid hS
    have G1 := Lib.hid h1
    have G2 := Lib.hid h2
    have G3 := Lib.hid h3
    clear hv hall hS h1 h2 h3
    go_wp2
    go_ret2
    exact ⟨g, cp, by simp [e7, e8, HDL.out], by rw [HDL.out]; exact G1.out, G2.out, G3.out, HS'.out.2⟩
end Go.Proofs.Ytahkgkonpjimpaa
