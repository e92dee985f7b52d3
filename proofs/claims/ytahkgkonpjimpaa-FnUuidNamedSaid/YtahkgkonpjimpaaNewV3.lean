/-
  NewV3.
-/
import Derived.Test.YtahkgkonpjimpaaDigAid
import Derived.Test.YtahkgkonpjimpaaFormD
namespace Go.Proofs.Ytahkgkonpjimpaa
open Go.RowKit
set_option linter.unusedVariables false
set_option maxRecDepth 1000000 in
set_option maxHeartbeats 4000000 in
theorem newV3_any (p : Value) (ns nm : List UInt8) (hns : ns.length = 16) (s : ByteArray) (hnm : s.data.toList = nm) (hn : nm.length ≤ 200) (w0 : World) :
    Calls Try.prog 11 #[p, .agg (ns.map B8).toArray, .string s] w0 fun e w' => e = .returned (.agg ((formN ((sumM (ns ++ nm)).take 16) 3).map B8).toArray) ∧ Below w0.heap.size w0 w' := by
  have hm : Try.prog.follows .mixedOrders = true := by kernel_rfl
  go_enter Try.func11, Try.ntmps11
  refine fr_start 24 [(1, (.agg (ns.map B8).toArray)), (2, (.string s))] ⟨by kernel_rfl, rfl, List.forall_mem_cons.2 ⟨by kernel_rfl, List.forall_mem_cons.2 ⟨by kernel_rfl, fun _ h => by cases h⟩⟩⟩ fun fr0 hfr0 => ?_
  refine wp_seq (reg_box_var 24 _ 4 6 1 30 (ns.map B8) 30 (.agg (z16.map B8).toArray) (z16.map B8) rfl rfl rfl rfl rfl rfl (by simp) Try.zeroU rfl hfr0 (by decide) (by decide) (by decide) (by kernel_rfl) (by kernel_rfl) fun fr1 w1 w2 h1 h2 hfr1 => ?_)
  show Code.wp _ _ _ _ _
  obtain ⟨gn, hgn⟩ : ∃ z, z = w0.heap.size := ⟨_, rfl⟩
  obtain ⟨gu, hgu⟩ : ∃ z, z = w1.heap.size := ⟨_, rfl⟩
  obtain ⟨gd, hgd⟩ : ∃ z, z = w2.heap.size := ⟨_, rfl⟩
  have atn2 : At w2 gn 30 (ns.map B8) := h2.keep (hgn ▸ h1.at_)
  have atu2 : At w2 gu 30 (z16.map B8) := hgu ▸ h2.at_
  have b2 : Below w0.heap.size w0 w2 := h2.below (h1.below (Below.refl _ _) (Nat.le_refl _)) (by have := h1.size; omega)
  have hlt1 : gn < gu := by have := h1.size; omega
  have hlt2 : gu < gd := by have := h2.size; omega
  rw [← hgn, ← hgu] at hfr1
  have hgn0 : w0.heap.size ≤ gn := by omega
  clear h1 h2 hfr0
  refine wp_seq (reg_any (b := false) 7 24 [(6, (.pointer (some ⟨gu, 0, none⟩))), (4, (.pointer (some ⟨gn, 0, none⟩))), (1, (.agg (ns.map B8).toArray)), (2, (.string s))] (fun zz => [(.pointer (some ⟨gd, 0, none⟩)), (.pointer (some ⟨gd, 0, none⟩))].getD zz undef) (OneS 0 w2 (fun x => Dg 57 cellsM md5G ivM x gd [] ∧ Below gd w2 x)) [0, 1] hm (by kernel_rfl) (by kernel_rfl) (by kernel_rfl) (by kernel_rfl) hfr1 (OneS.start _) ⟨?_, ?_, trivial⟩ ?_)
  · exact ⟨_, [], rfl, rfl, by kernel_rfl, fun rr listed w' hsz hun hpl hS => by
      obtain rfl := hS.before hun
      refine ⟨.enter 13 #[], w', by kernel_rfl, .inr (.inr ⟨_, _, rfl, ?_⟩)⟩
      refine (md5_new w').mono ?_
      rintro e w'' ⟨rfl, k1, k2⟩
      rw [← hgd] at k1 k2 ⊢
      exact ⟨rfl, OneS.done hsz ⟨k1, k2⟩⟩⟩
  · exact ⟨_, [0], rfl, rfl, by kernel_rfl, fun rr listed w' hsz hun hpl hS => ⟨.value (.pointer (some ⟨gd, 0, none⟩)), w', by kernel_rfl, .inl ⟨rfl, hS.other 1 (by decide)⟩⟩⟩
  intro fr3 w3 listed hkn hall
  show Code.wp _ _ _ _ _
  have hfr3 : Fr 24 [(7, (.pointer (some ⟨gd, 0, none⟩))), (6, (.pointer (some ⟨gu, 0, none⟩))), (4, (.pointer (some ⟨gn, 0, none⟩))), (1, (.agg (ns.map B8).toArray)), (2, (.string s))] fr3 := hkn.fr hall [1] (by kernel_rfl)
  obtain ⟨hd3, k3⟩ := hkn.st.end_ (hall 0 (by decide))
  have atn3 : At w3 gn 30 (ns.map B8) := atn2.below k3 (by omega)
  have atu3 : At w3 gu 30 (z16.map B8) := atu2.below k3 (by omega)
  have b3 : Below w0.heap.size w0 w3 := b2.trans (k3.mono (by have := b2.size; omega))
  clear hkn hall hfr1 atn2 atu2 b2 k3 hgd
  obtain ⟨s3, X3, q3, hL3, hat3⟩ := hd3
  refine wp_seq (reg_any (b := false) 9 24 [(7, (.pointer (some ⟨gd, 0, none⟩))), (6, (.pointer (some ⟨gu, 0, none⟩))), (4, (.pointer (some ⟨gn, 0, none⟩))), (1, (.agg (ns.map B8).toArray)), (2, (.string s))] (fun zz => [(.pointer (some ⟨gd, 0, none⟩)), (.slice (some ⟨gn, 0, none⟩) 16 16), (.tuple #[.int .i64 ((16 : Nat) : Int), .nilIface])].getD zz undef) (OneS 2 w3 (fun x => Dg 57 cellsM md5G ivM x gd ([] ++ ns) ∧ w3.grownBy x (some gd))) [0, 1, 2] hm (by kernel_rfl) (by kernel_rfl) (by kernel_rfl) (by kernel_rfl) hfr3 (OneS.start _) ⟨?_, ?_, ?_, trivial⟩ ?_)
  · exact ⟨_, [], rfl, rfl, by kernel_rfl, fun rr listed w' hsz hun hpl hS => ⟨.value (.pointer (some ⟨gd, 0, none⟩)), w', by kernel_rfl, .inl ⟨rfl, hS.other 0 (by decide)⟩⟩⟩
  · exact ⟨_, [], rfl, rfl, by kernel_rfl, fun rr listed w' hsz hun hpl hS => ⟨.value (.slice (some ⟨gn, 0, none⟩) 16 16), w', by kernel_rfl, .inl ⟨rfl, hS.other 1 (by decide)⟩⟩⟩
  · exact ⟨_, [0, 1], rfl, rfl, by kernel_rfl, fun rr listed w' hsz hun hpl hS => by
      obtain rfl := hS.before hun
      refine ⟨.enter 14 #[(.pointer (some ⟨gd, 0, none⟩)), (.slice (some ⟨gn, 0, none⟩) 16 16)], w', by kernel_rfl, .inr (.inr ⟨_, _, rfl, ?_⟩)⟩
      refine (md5_write gd [] ns s3 X3 q3 16 16 (some ⟨gn, 0, none⟩) hL3 w' hat3 hns atn3.byt (.inr ⟨gn, 0, rfl, by omega⟩) (by decide) (by decide) (by decide)).mono ?_
      rintro e w'' ⟨rfl, k1, k2⟩
      exact ⟨rfl, OneS.done hsz ⟨k1, k2⟩⟩⟩
  intro fr4 w4 listed hkn hall
  show Code.wp _ _ _ _ _
  have hfr4 : Fr 24 [(7, (.pointer (some ⟨gd, 0, none⟩))), (6, (.pointer (some ⟨gu, 0, none⟩))), (4, (.pointer (some ⟨gn, 0, none⟩))), (1, (.agg (ns.map B8).toArray)), (2, (.string s))] fr4 := hkn.fr hall [] (by kernel_rfl)
  obtain ⟨hd4, k4⟩ := hkn.st.end_ (hall 2 (by decide))
  rw [List.nil_append] at hd4
  have atu4 : At w4 gu 30 (z16.map B8) := atu3.grown k4 (by simp; omega)
  have b4 : Below w0.heap.size w0 w4 := b3.grown k4 b3.size (by simp; omega)
  clear hkn hall hfr3 atn3 atu3 b3 k4 hL3 hat3
  obtain ⟨gc, hgc⟩ : ∃ z, z = w4.heap.size := ⟨_, rfl⟩
  obtain ⟨cp, hcp⟩ : ∃ z, z = grownCap w4 s.size 0 5 := ⟨_, rfl⟩
  have hltc : gd < gc := by have := hd4.lt; omega
  refine wp_seq (reg_any (b := false) 12 24 [(7, (.pointer (some ⟨gd, 0, none⟩))), (6, (.pointer (some ⟨gu, 0, none⟩))), (4, (.pointer (some ⟨gn, 0, none⟩))), (1, (.agg (ns.map B8).toArray)), (2, (.string s))] (fun zz => [(.pointer (some ⟨gd, 0, none⟩)), (.string s), (.slice (some ⟨gc, 0, none⟩) nm.length cp), (.tuple #[.int .i64 ((nm.length : Nat) : Int), .nilIface])].getD zz undef) (ChS [2, 3] (fun k x => match k with | 0 => x = w4 | 1 => nm.length ≤ cp ∧ Byt x (some ⟨gc, 0, none⟩) nm ∧ x.heap.size = gc + 1 ∧ Below w4.heap.size w4 x | _ => Dg 57 cellsM md5G ivM x gd (ns ++ nm) ∧ w4.grownBy x (some gd))) [0, 1, 2, 3] hm (by kernel_rfl) (by kernel_rfl) (by kernel_rfl) (by kernel_rfl) hfr4 (ChS.start _ rfl) ⟨?_, ?_, ?_, ?_, trivial⟩ ?_)
  · exact ⟨_, [], rfl, rfl, by kernel_rfl, fun rr listed w' hsz hun hpl hS => ⟨.value (.pointer (some ⟨gd, 0, none⟩)), w', by kernel_rfl, .inl ⟨rfl, hS.other 0 (by decide)⟩⟩⟩
  · exact ⟨_, [], rfl, rfl, by kernel_rfl, fun rr listed w' hsz hun hpl hS => ⟨.value (.string s), w', by kernel_rfl, .inl ⟨rfl, hS.other 1 (by decide)⟩⟩⟩
  · exact ⟨_, [1], rfl, rfl, by kernel_rfl, fun rr listed w' hsz hun hpl hS => by
      obtain rfl := hS.here 0 2 rfl hun (.inl rfl)
      refine ⟨.value (.slice (some ⟨gc, 0, none⟩) nm.length cp), (conv_run (sT := 9) (dT := 22) (e := 5) (by rfl) Try.underlying9 Try.underlying22 Try.underlying5 s (by kernel_rfl) w' gc hgc.symm nm hnm cp hcp.symm).imp fun w'' h => ⟨h.1, .inl ⟨rfl, hS.next 0 2 rfl hun (.inl rfl) (by decide) hsz (show _ ∧ _ from h.2)⟩⟩⟩⟩
  · exact ⟨_, [0, 2], rfl, rfl, by kernel_rfl, fun rr listed w' hsz hun hpl hS => by
      obtain ⟨r1, r2, r3, r4⟩ := hS.here 1 3 rfl hun (.inr ⟨2, rfl, hpl 2 (by simp)⟩)
      obtain ⟨s4, X4, q4, hL4, hat4⟩ := hd4
      refine ⟨.enter 14 #[(.pointer (some ⟨gd, 0, none⟩)), (.slice (some ⟨gc, 0, none⟩) nm.length cp)], w', by kernel_rfl, .inr (.inr ⟨_, _, rfl, ?_⟩)⟩
      refine (md5_write gd ns nm s4 X4 q4 nm.length cp (some ⟨gc, 0, none⟩) hL4 w' (hat4.below_ r4) rfl r2 (.inr ⟨gc, 0, rfl, by omega⟩) r1 (by omega) (by omega)).mono ?_
      rintro e w'' ⟨rfl, k1, k2⟩
      exact ⟨rfl, hS.next 1 3 rfl hun (.inr ⟨2, rfl, hpl 2 (by simp)⟩) (by decide) hsz (show _ ∧ _ from ⟨k1, grown_trans' (grown_of_below r4 _) k2⟩)⟩⟩
  intro fr5 w5 listed hkn hall
  show Code.wp _ _ _ _ _
  have hfr5 : Fr 24 [(7, (.pointer (some ⟨gd, 0, none⟩))), (6, (.pointer (some ⟨gu, 0, none⟩))), (4, (.pointer (some ⟨gn, 0, none⟩))), (1, (.agg (ns.map B8).toArray)), (2, (.string s))] fr5 := hkn.fr hall [] (by kernel_rfl)
  obtain ⟨hd5, k5⟩ : Dg 57 cellsM md5G ivM w5 gd (ns ++ nm) ∧ w4.grownBy w5 (some gd) := hkn.st.end_ 1 3 rfl rfl (hall 3 (by decide))
  have atu5 : At w5 gu 30 (z16.map B8) := atu4.grown k5 (by simp; omega)
  have b5 : Below w0.heap.size w0 w5 := b4.grown k5 b4.size (by simp; omega)
  clear hkn hall hfr4 atu4 b4 k5 hd4 hgc hcp hltc
  obtain ⟨gs, hgs⟩ : ∃ z, z = w5.heap.size := ⟨_, rfl⟩
  obtain ⟨T, hT⟩ : ∃ z, z = ns ++ nm := ⟨_, rfl⟩
  have hTl : T.length ≤ 300 := by rw [hT, List.length_append]; omega
  have hlts : gd < gs := by have := hd5.lt; omega
  obtain ⟨ts, hts⟩ : ∃ z, z = (sumM T).take 16 := ⟨_, rfl⟩
  have htl : ts.length = 16 := by rw [hts]; simp [sumM, le4B]
  have hsl : (sumM T).length = 16 := by simp [sumM, le4B]
  rw [← hT] at hd5
  rw [← hT, ← hts]
  refine wp_seq (reg_any (b := true) 16 24 [(7, (.pointer (some ⟨gd, 0, none⟩))), (6, (.pointer (some ⟨gu, 0, none⟩))), (4, (.pointer (some ⟨gn, 0, none⟩))), (1, (.agg (ns.map B8).toArray)), (2, (.string s))] (fun zz => [(.slice (some ⟨gu, 0, none⟩) 16 16), (.pointer (some ⟨gd, 0, none⟩)), (.slice (some ⟨gs, 0, none⟩) 0 16), (.slice (some ⟨gs, 0, none⟩) 16 16), (.int .i64 ((16 : Nat) : Int))].getD zz undef) (ChS [2, 3, 4] (fun k x => match k with | 0 => x = w5.drew | 1 => NewB w5.drew x 5 (List.replicate 16 (.int .u8 0)) | 2 => At x gs 5 ((sumM T).map B8) ∧ w5.grownBy x (some gs) | _ => At x gu 30 (ts.map B8) ∧ Below w0.heap.size w0 x)) [0, 1, 2, 3, 4] hm (by kernel_rfl) (by kernel_rfl) (by kernel_rfl) (by kernel_rfl) hfr5 (ChS.start _ rfl) ⟨?_, ?_, ?_, ?_, ?_, trivial⟩ ?_)
  · exact ⟨_, [], rfl, rfl, by kernel_rfl, fun rr listed w' hsz hun hpl hS => ⟨.value (.slice (some ⟨gu, 0, none⟩) 16 16), w', by kernel_rfl, .inl ⟨rfl, hS.other 0 (by decide)⟩⟩⟩
  · exact ⟨_, [], rfl, rfl, by kernel_rfl, fun rr listed w' hsz hun hpl hS => ⟨.value (.pointer (some ⟨gd, 0, none⟩)), w', by kernel_rfl, .inl ⟨rfl, hS.other 1 (by decide)⟩⟩⟩
  · exact ⟨_, [], rfl, rfl, by kernel_rfl, fun rr listed w' hsz hun hpl hS => by
      obtain rfl := hS.here 0 2 rfl hun (.inl rfl)
      refine ⟨.value (.slice (some ⟨gs, 0, none⟩) 0 16), (make_run (t := 22) (e := 5) (by rfl) Try.underlying22 Try.info8 16 (by decide) (by kernel_rfl) (by kernel_rfl) w5.drew gs hgs.symm).imp fun w'' h => ⟨h.1, .inl ⟨rfl, hS.next 0 2 rfl hun (.inl rfl) (by decide) hsz h.2⟩⟩⟩⟩
  · exact ⟨_, [1, 2], rfl, rfl, by kernel_rfl, fun rr listed w' hsz hun hpl hS => by
      have r1 : NewB w5.drew w' 5 (List.replicate 16 (.int .u8 0)) := hS.here 1 3 rfl hun (.inr ⟨2, rfl, hpl 2 (by simp)⟩)
      refine ⟨.enter 15 #[(.pointer (some ⟨gd, 0, none⟩)), (.slice (some ⟨gs, 0, none⟩) 0 16)], w', by kernel_rfl, .inr (.inr ⟨_, _, rfl, ?_⟩)⟩
      refine (md5_sumOwn gd T hTl w' (hd5.keep (grown_trans' (grown_drew (grown_self w5 none)) r1.grown) (by simp)) gs (hgs ▸ r1.at_) (by omega)).mono ?_
      rintro e w'' ⟨rfl, k1, k2⟩
      exact ⟨rfl, hS.next 1 3 rfl hun (.inr ⟨2, rfl, hpl 2 (by simp)⟩) (by decide) hsz (show _ ∧ _ from ⟨k1, grown_trans' (World.grownBy_mono' (grown_trans' (grown_drew (grown_self w5 none)) r1.grown)) k2⟩)⟩⟩
  · exact ⟨_, [0, 3], rfl, rfl, by kernel_rfl, fun rr listed w' hsz hun hpl hS => by
      obtain ⟨k1, k2⟩ := hS.here 2 4 rfl hun (.inr ⟨3, rfl, hpl 3 (by simp)⟩)
      have k1' := k1.byt
      refine ⟨.value (goInt (16 : Nat)), (copy_run (dT := 22) (sT := 22) (e := 5) (by rfl) Try.underlying22 Try.size8 (g := gu) (off := 0) (dLen := 16) (dCap := 16) (n := 16) (c := 16) (A := some ⟨gs, 0, none⟩) (by kernel_rfl) (by kernel_rfl) k1' hsl (atu5.grown k2 (by simp; omega)) 16 (by decide) (by decide)).imp fun w'' h => ⟨h.1, .inl ⟨rfl, ?_⟩⟩⟩
      have r1 := h.2
      rw [← hts, splice_all _ _ (by rw [List.length_map, htl]; rfl)] at r1
      exact hS.next 2 4 rfl hun (.inr ⟨3, rfl, hpl 3 (by simp)⟩) (by decide) hsz (show _ ∧ _ from ⟨r1.at_, (b5.grown k2 b5.size (by simp; omega)).grown r1.grown (by have := b5.size; have := k2.size; omega) (by simp; omega)⟩)⟩
  intro fr6 w6 listed hkn hall
  show Code.wp _ _ _ _ _
  have hfr6 : Fr 24 [(6, (.pointer (some ⟨gu, 0, none⟩)))] fr6 := (hkn.fr hall [] (by kernel_rfl)).sub [1] rfl
  obtain ⟨atu6, b6⟩ : At w6 gu 30 (ts.map B8) ∧ Below w0.heap.size w0 w6 := hkn.st.end_ 2 4 rfl rfl (hall 4 (by decide))
  clear hkn hall hfr5 atu5 b5 hd5 hgs hlts
  refine wp_seq (reg_any (b := false) 20 24 [(6, (.pointer (some ⟨gu, 0, none⟩)))] (fun zz => [(.tuple #[])].getD zz undef) (OneS 0 w6 (fun x => PutB w6 x gu 30 ((ts.set 6 (setVer (ts.getD 6 0) 3)).map B8))) [0] hm (by kernel_rfl) (by kernel_rfl) (by kernel_rfl) (by kernel_rfl) hfr6 (OneS.start _) ⟨?_, trivial⟩ ?_)
  · exact ⟨_, [], rfl, rfl, by kernel_rfl, fun rr listed w' hsz hun hpl hS => by
      obtain rfl := hS.before hun
      refine ⟨.enter 23 #[(.pointer (some ⟨gu, 0, none⟩)), (.int .u8 (((3 : UInt8).toNat : Nat) : Int))], w', by kernel_rfl, .inr (.inr ⟨_, _, rfl, ?_⟩)⟩
      refine (setVersion_any gu 30 ts htl 3 w' atu6).mono ?_
      rintro e w'' ⟨rfl, k1⟩
      exact ⟨rfl, OneS.done hsz k1⟩⟩
  intro fr7 w7 listed hkn hall
  show Code.wp _ _ _ _ _
  have hfr7 : Fr 24 [(6, (.pointer (some ⟨gu, 0, none⟩)))] fr7 := hkn.fr hall [] (by kernel_rfl)
  have p7 := hkn.st.end_ (hall 0 (by decide))
  have atu7 := p7.at_
  have b7 := p7.below b6 b6.size (show w0.heap.size ≤ gu by omega)
  clear hkn hall p7 hfr6 atu6 b6
  obtain ⟨v6, hv6e⟩ : ∃ z, z = (ts.set 6 (setVer (ts.getD 6 0) 3)) := ⟨_, rfl⟩
  have hv6 : v6.length = 16 := by rw [hv6e, List.length_set, htl]
  rw [← hv6e] at atu7
  refine wp_seq (reg_any (b := false) 20 24 [(6, (.pointer (some ⟨gu, 0, none⟩)))] (fun zz => [(.tuple #[])].getD zz undef) (OneS 0 w7 (fun x => PutB w7 x gu 30 ((v6.set 8 (setVar (v6.getD 8 0) (varMask 1) (varBits 1))).map B8))) [0] hm (by kernel_rfl) (by kernel_rfl) (by kernel_rfl) (by kernel_rfl) hfr7 (OneS.start _) ⟨?_, trivial⟩ ?_)
  · exact ⟨_, [], rfl, rfl, by kernel_rfl, fun rr listed w' hsz hun hpl hS => by
      obtain rfl := hS.before hun
      refine ⟨.enter 24 #[(.pointer (some ⟨gu, 0, none⟩)), (.int .u8 1)], w', by kernel_rfl, .inr (.inr ⟨_, _, rfl, ?_⟩)⟩
      refine (setVariant_1 gu 30 v6 hv6 w' atu7).mono ?_
      rintro e w'' ⟨rfl, k1⟩
      exact ⟨rfl, OneS.done hsz k1⟩⟩
  intro fr8 w8 listed hkn hall
  show Code.wp _ _ _ _ _
  have hfr8 : Fr 24 [(6, (.pointer (some ⟨gu, 0, none⟩)))] fr8 := hkn.fr hall [] (by kernel_rfl)
  have p8 := hkn.st.end_ (hall 0 (by decide))
  have atu8 := p8.at_
  have b8 := p8.below b7 b7.size (show w0.heap.size ≤ gu by omega)
  clear hkn hall p8 hfr7 atu7 b7
  have hfn : v6.set 8 (setVar (v6.getD 8 0) (varMask 1) (varBits 1)) = formN ts 3 := by
    rw [hv6e]
    unfold formN
    rw [show (ts.set 6 (setVer (ts.getD 6 0) 3)).getD 8 0 = ts.getD 8 0 by simp [List.getD]]
  rw [hfn] at atu8
  have hfl : (formN ts 3).length = 16 := by unfold formN; rw [List.length_set, List.length_set, htl]
  obtain ⟨fin, hfin⟩ : ∃ z, z = formN ts 3 := ⟨_, rfl⟩
  rw [← hfin] at atu8 hfl ⊢
  have hsz : (Try.prog.info? 30).map (·.size) = some (fin.map B8).length := sizeU_of fin hfl
  refine wp_seq (reg_move 24 [(6, (.pointer (some ⟨gu, 0, none⟩)))] 30 6 6 23 gu gu _ _ _ rfl rfl rfl rfl rfl rfl hfr8 (by decide) (by kernel_rfl) (by simp) (by simp) atu8 atu8 Try.underlying30 rfl hsz rfl (B8_one _) fun frz wz hwz hfrz => ?_)
  refine wp_ret ?_
  refine bodyPost_ret (results_cell_row rfl _ _ gu 30 (fin.map B8).toArray (0, 0) _ (hfrz.get (j := 6) (by simp)) hwz.at_ Try.underlying30 rfl (by simpa using hsz)) hfrz.2.1 ?_
  exact ⟨rfl, hwz.below b8 b8.size (show w0.heap.size ≤ gu by omega)⟩
end Go.Proofs.Ytahkgkonpjimpaa
