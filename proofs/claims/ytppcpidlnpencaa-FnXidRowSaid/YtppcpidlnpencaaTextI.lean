/-
  The thin package's XidText.
-/
import Derived.Test.YtppcpidlnpencaaString
import Derived.Test.YtppcpidlnpencaaTextLaw
import Derived.Test.YtppcpidlnpencaaReg
namespace Go.Proofs.Ytppcpidlnpencaa
open Go.RowKit
set_option linter.unusedVariables false
theorem strX_spec (bs : List UInt8) (h : bs.length = 12) : strX bs = xidStr bs := by
  obtain ⟨b0, b1, b2, b3, b4, b5, b6, b7, b8, b9, b10, b11, rfl⟩ := len12 bs h
  unfold strX xidStr writeS
  rw [← encL_digs]
  rfl
section
def TxC (cs ds : List Value) (S : ByteArray) (t : TypeId) (gi : Nat) (j : Nat) (x : Value) (w : World) : Prop :=
  match j with
  | 0 => x = .agg cs.toArray
  | 1 => x = .string S
  | 2 => x = .agg cs.toArray
  | 3 => ∃ g es, x = .slice (some ⟨g, 0, none⟩) 20 20 ∧ gi < g ∧ es.length = 20 ∧ At w g t es
  | 4 => ∃ g, x = .slice (some ⟨g, 0, none⟩) 20 20 ∧ At w g t ds
  | 5 => x = .string S
  | 6 => x = .string S
  | 7 => x = .string S
  | 8 => x = .bool true
  | _ => True
def TxS (cs : List Value) (t : TypeId) (gi : Nat) (w0 w : World) : Prop := At w gi t cs ∧ Below w0.heap.size w0 w ∧ w0.heap.size ≤ gi
theorem TxC.below {cs ds : List Value} {S : ByteArray} {t : TypeId} {gi : Nat} {w w' : World} (h : Below w.heap.size w w') (j : Nat) (x : Value) (hc : TxC cs ds S t gi j x w) : TxC cs ds S t gi j x w' := by
  unfold TxC at *
  split <;> simp only at hc ⊢ <;> try exact hc
  · obtain ⟨g, es, h1, h2, h3, h4⟩ := hc
    exact ⟨g, es, h1, h2, h3, h4.below h h4.lt⟩
  · obtain ⟨g, h1, h4⟩ := hc
    exact ⟨g, h1, h4.below h h4.lt⟩
theorem TxC.grown {cs ds es : List Value} {S : ByteArray} {t : TypeId} {gi g : Nat} {w w' : World} (hg : w.grownBy w' (some g)) (ha : At w' g t es) (hl : es.length = 20) (j : Nat) (x : Value) (hj : j ≠ 4) (hc : TxC cs ds S t gi j x w) : TxC cs ds S t gi j x w' := by
  unfold TxC at *
  split <;> simp only at hc ⊢ <;> try exact hc
  · obtain ⟨g', es', h1, h2, h3, h4⟩ := hc
    by_cases e : g' = g
    · subst e; exact ⟨g', es, h1, h2, hl, ha⟩
    · exact ⟨g', es', h1, h2, h3, h4.grown hg (by simp [e])⟩
  · omega
theorem TxS.below {cs : List Value} {t : TypeId} {gi : Nat} {w0 w w' : World} (h : Below w.heap.size w w') (hs : TxS cs t gi w0 w) : TxS cs t gi w0 w' :=
  ⟨hs.1.below h hs.1.lt, hs.2.1.trans (h.mono hs.2.1.size), hs.2.2⟩
theorem TxS.grown {cs : List Value} {t : TypeId} {gi g : Nat} {w0 w w' : World} (h : w.grownBy w' (some g)) (hg : gi < g) (hs : TxS cs t gi w0 w) : TxS cs t gi w0 w' :=
  ⟨hs.1.grown h (by simp; omega), hs.2.1.grown h hs.2.1.size (by have := hs.2.2; simp; omega), hs.2.2⟩
end
set_option maxRecDepth 100000 in
set_option maxHeartbeats 2000000 in
theorem xidText_yes (A : Option Addr) (c : Nat) (bs : List UInt8) (hbs : bs.length = 12) (w : World) (hb : Byt w A bs) :
    Calls Try.prog 21 #[.slice A 12 c] w fun e w' => e = .returned (.tuple #[.string (strX bs), .string (strX bs), .bool true]) ∧ Below w.heap.size w w' := by
  have HL := Lib.hid hbs
  have HB := Lib.hid hb
  have LE := Lib.hid (encB_length bs hbs)
  clear hbs hb
  obtain ⟨Z, hZ⟩ : ∃ Z, Z = z12.map B8 := ⟨_, rfl⟩
  have hz : ∀ w, (zeroValue 54).run Try.prog w = .ok (.agg Z.toArray) w := hZ ▸ Try.zeroI
  have HZ := Lib.hid (show Z.length = 12 by simp [hZ, z12])
  obtain ⟨cs, hcs⟩ : ∃ cs, cs = bs.map B8 := ⟨_, rfl⟩
  have HC := Lib.hid hcs
  have HBS := Lib.hid (show (Try.prog.info? 54).map (·.size) = some cs.length by rw [hcs]; exact sizeI_of bs HL.out)
  have LC := Lib.hid (show cs.length = 12 by rw [hcs, List.length_map, HL.out])
  have OC := Lib.hid (show ∀ v ∈ cs, v.oneCell' = true by rw [hcs]; exact B8_one bs)
  obtain ⟨S, hS⟩ : ∃ S, S = strX bs := ⟨_, rfl⟩
  rw [← hS]
  have HS := Lib.hid hS
  clear hZ hS hcs
  have SX := Lib.hid (show ∀ w, Calls Try.prog 43 #[.agg cs.toArray] w fun e w' => e = .returned (.string S) ∧ Below w.heap.size w w' from fun w => by rw [HC.out, HS.out]; exact stringX bs HL.out w)
  have EX := Lib.hid (show ∀ (g : Nat) (t : TypeId) (ds : List Value), ds.length = 20 → ∀ w, At w g t ds → Calls Try.prog 44 #[.agg cs.toArray, .slice (some ⟨g, 0, none⟩) 20 20] w fun e w' => e = .returned (.slice (some ⟨g, 0, none⟩) 20 20) ∧ At w' g t ((encB bs).map B8) ∧ w.grownBy w' (some g) from fun g t ds hd w hg => by rw [HC.out]; exact encodeX bs HL.out g t ds hd w hg)
  go_enter Try.func21, Try.ntmps21
  go_wp2_with fail
  refine (xidBytes_yes A 12 c bs rfl HL.out w HB.out).mono ?_
  unfold XidYes
  rw [← HC.out]
  rintro e w1 ⟨rfl, bel1⟩
  have E1 := Lib.hid bel1
  clear bel1
  go_wp2_with (refine wpList_var rfl 54 rfl (.agg Z.toArray) Z hz rfl ?_)
  intro w2 h2
  have H2 := Lib.hid h2
  clear h2 hz
  go_wp2_with (refine wpList_put rfl 54 (.tmp 5) (.tmp 10) rfl w1.heap.size cs (by rfl) (by rfl) 54 Z H2.out.at_ HBS.out (by rw [HZ.out, LC.out]) OC.out ?_)
  intro w3 h3
  obtain ⟨gi, hgi⟩ : ∃ gi, gi = w1.heap.size := ⟨_, rfl⟩
  have S3 := Lib.hid (show TxS cs 54 gi w w3 from hgi ▸ ⟨h3.at_, h3.below (H2.out.below E1.out E1.out.size) (by have := E1.out.size; have := H2.out.size; omega) E1.out.size, E1.out.size⟩)
  clear h3
  rw [← hgi]
  clear hgi
  go_wp2_with fail
  have hu := Lib.hid Try.underlying54
  refine wp_region_inv (RI (fun v => ⟨#[Value.slice A 12 c, undef, v 6, v 7, v 8,
          Value.pointer (some { block := gi, off := 0 }), Value.nilIface,
          Value.tuple #[Value.agg cs.toArray, Value.nilIface], Value.slice A 12 c,
          Value.tuple #[Value.agg cs.toArray, Value.nilIface], Value.agg cs.toArray, Value.nilIface, Value.nilIface,
          Value.bool false, v 0, v 1, v 2, v 3, v 4, v 5], []⟩) (TxC cs ((encB bs).map B8) S 5 gi) (TxS cs 54 gi w))
    [0, 1, 2, 3, 4, 5, 6, 7, 8] (by kernel_rfl) (by kernel_rfl) (by kernel_rfl) ?_ ?_ ?_
  · exact ⟨fun j => if j = 6 then .string ⟨#[]⟩ else if j = 7 then .string ⟨#[]⟩ else if j = 8 then .bool false else undef, rfl, (fun j hj => by rw [getD_replicate_false] at hj; cases hj), (show TxS cs 54 gi w w3 from S3.out).below (below_drewN (Below.refl _ _) 1)⟩
  · refine AllI.cons ?_ (AllI.cons ?_ (AllI.cons ?_ (AllI.cons ?_ (AllI.cons ?_ (AllI.cons ?_ (AllI.cons ?_ (AllI.cons ?_ (AllI.cons ?_ AllI.nil))))))))
    · refine stepRI [] rfl rfl (by kernel_rfl) fun v u hv hS K hK => ?_
      have hi := HBS.out
      have hu' := hu.out
      refine wp_load_mid _ _ rfl _ _ rfl _ _ hS.1.range hu' rfl hi ?_
      exact hK.out _ _ _ rfl (fun _ _ _ h => h) rfl hS
    · refine stepRI [0] rfl rfl (by kernel_rfl) fun v u hv hS K hK => ?_
      have e0 : v 0 = .agg cs.toArray := hv 0 rfl
      go_simp
      go_at_call 43
      refine (SX.out _).mono ?_
      rintro e u' ⟨rfl, b4⟩
      go_wp2_with fail
      exact hK.out _ _ _ (by simp [upd, e0]) (fun j x _ h => TxC.below b4 j x h) rfl (hS.below b4)
    · refine stepRI [] rfl rfl (by kernel_rfl) fun v u hv hS K hK => ?_
      have hi := HBS.out
      have hu' := hu.out
      refine wp_load_mid _ _ rfl _ _ rfl _ _ hS.1.range hu' rfl hi ?_
      exact hK.out _ _ _ rfl (fun _ _ _ h => h) rfl hS
    · refine stepRI [] rfl rfl (by kernel_rfl) fun v u hv hS K hK => ?_
      have mk : (Instr.makeSlice 22 (.int .i64 20) (.int .i64 20)).run Try.prog u = .ok (.slice (some ⟨u.heap.size, 0, none⟩) 20 20) (u.alloc (.cells ((List.replicate 20 (0 : UInt8)).map B8).toArray 5)) := by
        rw [← made_zero]; exact run_make_row' 22 5 (.int .u8 0) 1 Try.underlying22 Try.info8 rfl .i64 .i64 20 (by omega) (by omega) u
      have nb := NewB.alloc u 5 ((List.replicate 20 (0 : UInt8)).map B8)
      generalize u.alloc (.cells ((List.replicate 20 (0 : UInt8)).map B8).toArray 5) = u' at nb mk
      have nbel := Lib.hid (nb.below (Below.refl _ _) (Nat.le_refl _))
      have NB := Lib.hid nb
      clear nb
      go_simp
      exact hK.out _ _ _ (by simp [upd]) (fun j x _ h => TxC.below nbel.out j x h) ⟨u.heap.size, _, rfl, hS.1.lt, by simp, NB.out.at_⟩ (hS.below nbel.out)
    · refine stepRI [2, 3] rfl rfl (by kernel_rfl) fun v u hv hS K hK => ?_
      have e2 : v 2 = .agg cs.toArray := hv 2 rfl
      obtain ⟨g, es, e3, hg, hl, ha⟩ := hv 3 rfl
      have HG := Lib.hid hg
      have HLn := Lib.hid hl
      have HA := Lib.hid ha
      clear hg hl ha
      go_simp
      go_at_call 44
      refine (EX.out g _ _ HLn.out u HA.out).mono ?_
      rintro e u' ⟨rfl, a6, g6⟩
      go_wp2_with fail
      exact hK.out _ _ _ (by simp [upd, e2, e3]) (fun j x hj h => TxC.grown g6 a6 (by rw [List.length_map]; exact LE.out) j x hj h) ⟨g, rfl, a6⟩ (hS.grown g6 HG.out)
    · refine stepRI [4] rfl rfl (by kernel_rfl) fun v u hv hS K hK => ?_
      obtain ⟨g, e4, ha⟩ := hv 4 rfl
      have sv : (convert 22 9 (.slice (some ⟨g, 0, none⟩) 20 20)).run Try.prog u = .ok (.string S) u := by
        rw [HS.out]; exact run_strB 22 9 5 Try.underlying22 Try.underlying5 Try.underlying9 (some ⟨g, 0, none⟩) 20 20 (encB bs) ha.byt LE.out (by omega)
      have HA := Lib.hid ha
      clear ha
      go_simp
      exact hK.out _ _ _ (by simp [upd, e4]) (fun _ _ _ h => h) rfl hS
    · refine stepRI [1] rfl rfl (by kernel_rfl) fun v u hv hS K hK => ?_
      have e1 : v 1 = .string S := hv 1 rfl
      go_simp
      exact hK.out _ _ _ (by simp [upd, e1]) (fun _ _ _ h => h) rfl hS
    · refine stepRI [5] rfl rfl (by kernel_rfl) fun v u hv hS K hK => ?_
      have e5 : v 5 = .string S := hv 5 rfl
      go_simp
      exact hK.out _ _ _ (by simp [upd, e5]) (fun _ _ _ h => h) rfl hS
    · refine stepRI [] rfl rfl (by kernel_rfl) fun v u hv hS K hK => ?_
      go_simp
      exact hK.out _ _ _ rfl (fun _ _ _ h => h) rfl hS
  · intro li a u hall hI
    obtain ⟨v, rfl, hv, hS⟩ := hI
    have e6 : v 6 = .string S := hv 6 (hall 6 (by decide))
    have e7 : v 7 = .string S := hv 7 (hall 7 (by decide))
    have e8 : v 8 = .bool true := hv 8 (hall 8 (by decide))
    have HS' := Lib.hid hS
    clear hv hall hS
    go_wp2
    go_ret3
    exact ⟨by simp [e6, e7, e8], HS'.out.2.1⟩
end Go.Proofs.Ytppcpidlnpencaa
