/-
  sha1's checkSum: the sum of the stream.
-/
import Derived.Test.YtahkgkonpjimpaaMd5Sum
namespace Go.Proofs.Ytahkgkonpjimpaa
open Go.RowKit
set_option linter.unusedVariables false
set_option maxRecDepth 1000000 in
set_option maxHeartbeats 40000000 in
theorem sha1_checkSum (g : Nat) (T : List UInt8) (hT : T.length ≤ 300) (w0 : World) (hd0 : Dg 62 cellsS sha1G ivS w0 g T) :
    Calls Try.prog 31 #[(.pointer (some ⟨g, 0, none⟩))] w0 fun e w' => e = .returned (.agg ((sumS1 T).map B8).toArray) ∧ w0.grownBy w' (some g) := by
  have hm : Try.prog.follows .mixedOrders = true := by kernel_rfl
  have hgl := hd0.lt
  obtain ⟨ln, hln⟩ : ∃ z, z = T.length := ⟨_, rfl⟩
  go_enter Try.func31, Try.ntmps31
  refine fr_start 77 [(0, (.pointer (some ⟨g, 0, none⟩)))] ⟨by kernel_rfl, rfl, List.forall_mem_cons.2 ⟨by kernel_rfl, fun _ h => by cases h⟩⟩ fun fr0 hfr0 => ?_
  refine wp_seq (reg_var 77 _ 2 rfl rfl 64 rfl (.agg (List.replicate 20 (.int .u8 0)).toArray) (List.replicate 20 (.int .u8 0)) (fun w => by kernel_rfl) rfl hfr0 (by decide) (by kernel_rfl) fun fr1 w1 hw1 hfr1 => ?_)
  show Code.wp _ _ _ _ _
  obtain ⟨gr, hgr⟩ : ∃ z, z = w0.heap.size := ⟨_, rfl⟩
  have atr1 : At w1 gr 64 (List.replicate 20 (.int .u8 0)) := hgr ▸ hw1.at_
  rw [← hgr] at hfr1
  have hd1 := hd0.keep hw1.grown (by simp)
  have g01 : w0.grownBy w1 (some g) := World.grownBy_mono' hw1.grown
  have hgrg : gr ≠ g := by omega
  obtain ⟨s, X, q, hL, hat1⟩ := hd1
  rw [← hln] at hat1
  have hX : X.length = 64 := hL.2.2.1
  refine seq_quiet (Drawn w1) 77 _ [(.pointer (some ⟨g, 0, none⟩)), (.pointer (some ⟨g, 0, none⟩)), (.pointer (some ⟨g, 70, none⟩)), (.int .u64 (ln : Int)), (.int .u64 (ln : Int))] [none, none, none, some (.sem (Instr.loadAt 55 (.pointer (some ⟨g, 70, none⟩))) (.int .u64 (ln : Int))), none] [0, 2, 3] [(.pointer (some ⟨g, 0, none⟩)), (.pointer (some ⟨gr, 0, none⟩)), (.int .u64 (ln : Int))] hm (by kernel_rfl) (by kernel_rfl) hfr1 (fun r w => by kernel_rfl) (fun r => by kernel_rfl) (Drawn.refl w1) (fun _ => (Drawn.refl w1).drew) ⟨load_item (DCg_cells (sb := 5) hat1 rfl hX).2.1 Try.underlying55 rfl, trivial⟩ fun fr2 w2 hw2 hfr2 => ?_
  have hat2 := hw2.at_ hat1
  have atr2 := hw2.at_ atr1
  have g02 := hw2.grown g01
  refine wp_seq (reg_var 77 _ 4 rfl rfl 76 rfl (.agg (List.replicate 72 (.int .u8 0)).toArray) (List.replicate 72 (.int .u8 0)) (fun w => by kernel_rfl) rfl hfr2 (by decide) (by kernel_rfl) fun fr3 w3 hw3 hfr3 => ?_)
  show Code.wp _ _ _ _ _
  obtain ⟨gt, hgt⟩ : ∃ z, z = w2.heap.size := ⟨_, rfl⟩
  have att3 : At w3 gt 76 (List.replicate 72 (.int .u8 0)) := hgt ▸ hw3.at_
  rw [← hgt] at hfr3
  have hgtg : gt ≠ g := by have := g02.size; omega
  have hgt0 : w0.heap.size ≤ gt := by have := g02.size; omega
  have hgtr : gt ≠ gr := by have := atr2.lt; omega
  have hat3 : At w3 g 62 (DCg (cellsS s) X q ln) := hat2.grown hw3.grown (by simp)
  have atr3 : At w3 gr 64 (List.replicate 20 (.int .u8 0)) := atr2.grown hw3.grown (by simp)
  have g03 : w0.grownBy w3 (some g) := grown_trans' g02 (World.grownBy_mono' hw3.grown)
  clear hfr1 hfr2 hat1 hat2 atr1 atr2 g01 g02 hw1 hw2 hw3
  refine wp_seq (reg_store (Drawn w3) _ rfl 77 _ [(.pointer (some ⟨gt, 0, none⟩))] [some (.sem (Instr.indexAt 76 (.pointer (some ⟨gt, 0, none⟩)) (.int .i64 0)) (.pointer (some ⟨gt, 0, none⟩)))] [0, 2, 3, 4] [(.pointer (some ⟨g, 0, none⟩)), (.pointer (some ⟨gr, 0, none⟩)), (.int .u64 (ln : Int)), (.pointer (some ⟨gt, 0, none⟩))] (by kernel_rfl) hfr3 (fun r w => by kernel_rfl) (fun r => by kernel_rfl) (Drawn.refl _) ⟨fun _ _ => by kernel_rfl, trivial⟩ rfl rfl (x := .tmp 12) (y := .const (.int .u8 128)) rfl (b := gt) (k := 0) (kd := .u8) (n := 128) (fun r => by kernel_rfl) (fun r => by kernel_rfl) Try.size8 (fun w' hw' => At.there1 (hw'.at_ att3) 0 (by simp)) fun fr4 w4' hw4 hfr4 => ?_)
  show Code.wp _ _ _ _ _
  have att4 : At (w4'.setCell ⟨gt, 0, none⟩ (.int .u8 128)) gt 76 (.int .u8 128 :: List.replicate 71 (.int .u8 0)) := At.set_ (hw4.at_ att3) 0 (.int .u8 128)
  have gs4 := grown_set w4' gt 0 (.int .u8 128)
  have hat4 := (hw4.at_ hat3).grown gs4 (by simpa using hgtg.symm)
  have atr4 := (hw4.at_ atr3).grown gs4 (by simpa using hgtr.symm)
  have g04 : w0.grownBy (w4'.setCell ⟨gt, 0, none⟩ (.int .u8 128)) (some g) := grown_off (hw4.grown g03) gs4 hgt0
  obtain ⟨w4, hw4e⟩ : ∃ z, z = w4'.setCell ⟨gt, 0, none⟩ (.int .u8 128) := ⟨_, rfl⟩
  rw [← hw4e] at att4 hat4 atr4 g04 ⊢
  clear gs4 hw4e hw4 att3 hat3 atr3 g03 hfr3
  refine seq_quiet (Drawn w4) 77 _ [(.int .u64 0)] [none] [0, 2, 3, 4, 5] [(.pointer (some ⟨g, 0, none⟩)), (.pointer (some ⟨gr, 0, none⟩)), (.int .u64 (ln : Int)), (.pointer (some ⟨gt, 0, none⟩)), (.int .u64 0)] hm (by kernel_rfl) (by kernel_rfl) hfr4 (fun r w => by kernel_rfl) (fun r => by kernel_rfl) (Drawn.refl w4) (fun _ => (Drawn.refl w4).drew) trivial fun fr5 w5 hw5 hfr5 => ?_
  have hat5 := hw5.at_ hat4
  have atr5 := hw5.at_ atr4
  have att5 := hw5.at_ att4
  have g05 := hw5.grown g04
  obtain ⟨t, ht⟩ : ∃ z, z = tS ln := ⟨_, rfl⟩
  have htb := tS_pos ln
  rw [← ht] at htb
  have hmod : (ln : Int).tmod 64 = ((ln % 64 : Nat) : Int) := by rw [Int.tmod_eq_emod_of_nonneg (by omega)]; omega
  refine wp_seq (wp_mono (Q := fun e a w => e = .normal ∧ Drawn w5 w ∧ Fr 77 [(0, (.pointer (some ⟨g, 0, none⟩))), (2, (.pointer (some ⟨gr, 0, none⟩))), (3, (.int .u64 (ln : Int))), (4, (.pointer (some ⟨gt, 0, none⟩))), (5, (.int .u64 (t : Int)))] a) ?_ ?_)
  · skip
    refine seq_quiet (Drawn w5) 77 _ [(.int .u64 (ln : Int)), (.int .u64 ((ln : Int).tmod 64)), (.bool (decide (((ln : Int).tmod 64) < 56)))] [none, none, none] [0, 2, 3, 4, 5, 15] [(.pointer (some ⟨g, 0, none⟩)), (.pointer (some ⟨gr, 0, none⟩)), (.int .u64 (ln : Int)), (.pointer (some ⟨gt, 0, none⟩)), (.int .u64 0), (.bool (decide (((ln : Int).tmod 64) < 56)))] hm (by kernel_rfl) (by kernel_rfl) hfr5 (fun r w => by kernel_rfl) (fun r => by kernel_rfl) (Drawn.refl w5) (fun _ => (Drawn.refl w5).drew) trivial fun fr6 w6 hw6 hfr6 => ?_
    by_cases hc : ln % 64 < 56
    · refine wp_cond_true ((hfr6.nth 5 rfl).trans (by rw [hmod, decide_eq_true (show ((ln % 64 : Nat) : Int) < 56 by omega)])) ?_
      have hx : (IntKind.u64.wrap (56 - ((ln : Int).tmod 64))) = (t : Int) := by rw [hmod, u64_small _ (by omega), ht]; unfold tS; rw [if_pos hc]; omega
      refine last_quiet (Drawn w6) 77 _ [(.int .u64 (ln : Int)), (.int .u64 ((ln : Int).tmod 64)), (.int .u64 (IntKind.u64.wrap (56 - ((ln : Int).tmod 64)))), (.int .u64 (IntKind.u64.wrap (56 - ((ln : Int).tmod 64))))] [none, none, none, none] [0, 2, 3, 4, 5] [(.pointer (some ⟨g, 0, none⟩)), (.pointer (some ⟨gr, 0, none⟩)), (.int .u64 (ln : Int)), (.pointer (some ⟨gt, 0, none⟩)), (.int .u64 (t : Int))] hm (by kernel_rfl) (by kernel_rfl) hfr6 (fun r w => by kernel_rfl) (fun r => by rw [← hx]; kernel_rfl) (Drawn.refl w6) (fun _ => (Drawn.refl w6).drew) trivial fun fr7 w7 hw7 hfr7 => ?_
      exact ⟨rfl, hw6.trans hw7, hfr7⟩
    · refine wp_cond_false ((hfr6.nth 5 rfl).trans (by rw [hmod, decide_eq_false (show ¬ ((ln % 64 : Nat) : Int) < 56 by omega)])) ?_
      have hx : (IntKind.u64.wrap (120 - ((ln : Int).tmod 64))) = (t : Int) := by rw [hmod, u64_small _ (by omega), ht]; unfold tS; rw [if_neg hc]; omega
      refine last_quiet (Drawn w6) 77 _ [(.int .u64 (ln : Int)), (.int .u64 ((ln : Int).tmod 64)), (.int .u64 (IntKind.u64.wrap (120 - ((ln : Int).tmod 64)))), (.int .u64 (IntKind.u64.wrap (120 - ((ln : Int).tmod 64))))] [none, none, none, none] [0, 2, 3, 4, 5] [(.pointer (some ⟨g, 0, none⟩)), (.pointer (some ⟨gr, 0, none⟩)), (.int .u64 (ln : Int)), (.pointer (some ⟨gt, 0, none⟩)), (.int .u64 (t : Int))] hm (by kernel_rfl) (by kernel_rfl) hfr6 (fun r w => by kernel_rfl) (fun r => by rw [← hx]; kernel_rfl) (Drawn.refl w6) (fun _ => (Drawn.refl w6).drew) trivial fun fr7 w7 hw7 hfr7 => ?_
      exact ⟨rfl, hw6.trans hw7, hfr7⟩
  rintro e fr8 w8 ⟨rfl, hw8, hfr8⟩
  show Code.wp _ _ _ _ _
  have hat8 := hw8.at_ hat5
  have atr8 := hw8.at_ atr5
  have att8 := hw8.at_ att5
  have g08 := hw8.grown g05
  clear hfr4 hfr5 hw5 hw8 hat4 hat5 atr4 atr5 att4 att5 g04 g05
  have hsh : IntKind.u64.wrap ((ln : Int) * 2 ^ 3) = (ln : Int) * 2 ^ 3 := u64_small _ (by omega)
  have ht8 : IntKind.u64.wrap ((t : Int) + 8) = ((t + 8 : Nat) : Int) := by rw [u64_small ((t : Int) + 8) (by omega)]; omega
  refine seq_quiet (Drawn w8) 77 _ [(.int .u64 (ln : Int)), (.int .u64 (IntKind.u64.wrap ((ln : Int) * 2 ^ 3))), (.int .u64 (IntKind.u64.wrap ((ln : Int) * 2 ^ 3)))] [none, none, none] [0, 2, 3, 4, 5] [(.pointer (some ⟨g, 0, none⟩)), (.pointer (some ⟨gr, 0, none⟩)), (.int .u64 ((ln : Int) * 2 ^ 3)), (.pointer (some ⟨gt, 0, none⟩)), (.int .u64 (t : Int))] hm (by kernel_rfl) (by kernel_rfl) hfr8 (fun r w => by kernel_rfl) (fun r => Eq.trans (b := [(.pointer (some ⟨g, 0, none⟩)), (.pointer (some ⟨gr, 0, none⟩)), (.int .u64 (IntKind.u64.wrap ((ln : Int) * 2 ^ 3))), (.pointer (some ⟨gt, 0, none⟩)), (.int .u64 (t : Int))]) (by kernel_rfl) (by rw [hsh])) (Drawn.refl w8) (fun _ => (Drawn.refl w8).drew) trivial fun fr9 w9 hw9 hfr9 => ?_
  have hat9 := hw9.at_ hat8
  have atr9 := hw9.at_ atr8
  have att9 := hw9.at_ att8
  have g09 := hw9.grown g08
  clear hat8 atr8 att8 g08 hw9
  refine seq_quiet (Drawn w9) 77 _ [(.int .u64 (t : Int)), (.int .u64 (IntKind.u64.wrap ((t : Int) + 8))), (.slice (some ⟨gt, 0, none⟩) (t + 8) 72), (.slice (some ⟨gt, 0, none⟩) (t + 8) 72)] [none, none, some (.sem (Instr.sliceAt 76 (.pointer (some ⟨gt, 0, none⟩)) none (some (.int .u64 (IntKind.u64.wrap ((t : Int) + 8)))) none) (.slice (some ⟨gt, 0, none⟩) (t + 8) 72)), none] [0, 2, 3, 4, 5, 6] [(.pointer (some ⟨g, 0, none⟩)), (.pointer (some ⟨gr, 0, none⟩)), (.int .u64 ((ln : Int) * 2 ^ 3)), (.pointer (some ⟨gt, 0, none⟩)), (.int .u64 (t : Int)), (.slice (some ⟨gt, 0, none⟩) (t + 8) 72)] hm (by kernel_rfl) (by kernel_rfl) hfr9 (fun r w => by kernel_rfl) (fun r => by kernel_rfl) (Drawn.refl w9) (fun _ => (Drawn.refl w9).drew) ⟨fun w _ => by rw [ht8]; exact slice72to gt (t + 8) (by omega) w, trivial⟩ fun fr10 w10 hw10 hfr10 => ?_
  have hat10 := hw10.at_ hat9
  have atr10 := hw10.at_ atr9
  have att10 := hw10.at_ att9
  have g10 := hw10.grown g09
  clear hat9 atr9 att9 g09 hw10
  refine wp_seq (reg_any (b := false) 8 77 [(0, (.pointer (some ⟨g, 0, none⟩))), (2, (.pointer (some ⟨gr, 0, none⟩))), (3, (.int .u64 ((ln : Int) * 2 ^ 3))), (4, (.pointer (some ⟨gt, 0, none⟩))), (5, (.int .u64 (t : Int))), (6, (.slice (some ⟨gt, 0, none⟩) (t + 8) 72))] (fun zz => [(.slice (some ⟨gt, 0, none⟩) (t + 8) 72), (.int .u64 (t : Int)), (.slice (some ⟨gt, t, none⟩) (t + 8 - t) (72 - t)), (.int .u64 ((ln : Int) * 2 ^ 3)), (.tuple #[])].getD zz undef) (OneS 4 w10 (fun x => (∃ R, At x gt 76 ((padS ln).map B8 ++ R)) ∧ w10.grownBy x (some gt))) [0, 1, 2, 3, 4] hm (by kernel_rfl) (by kernel_rfl) (by kernel_rfl) (by kernel_rfl) hfr10 (OneS.start _) ⟨?_, ?_, ?_, ?_, ?_, trivial⟩ ?_)
  · exact ⟨_, [], rfl, rfl, by kernel_rfl, fun rr listed w' hsz hun hpl hS => ⟨.value (.slice (some ⟨gt, 0, none⟩) (t + 8) 72), w', by kernel_rfl, .inl ⟨rfl, hS.other 0 (by decide)⟩⟩⟩
  · exact ⟨_, [], rfl, rfl, by kernel_rfl, fun rr listed w' hsz hun hpl hS => ⟨.value (.int .u64 (t : Int)), w', by kernel_rfl, .inl ⟨rfl, hS.other 1 (by decide)⟩⟩⟩
  · exact ⟨_, [0, 1], rfl, rfl, by kernel_rfl, fun rr listed w' hsz hun hpl hS => ⟨.value (.slice (some ⟨gt, t, none⟩) (t + 8 - t) (72 - t)), w', slice_run rfl (X := (.slice (some ⟨gt, 0, none⟩) (t + 8) 72)) (L := some (.int .u64 (t : Int))) (H := none) (M := none) (by kernel_rfl) (by kernel_rfl) rfl rfl (slice_mid gt (t + 8) 72 t (by omega) (by omega) (by omega) w'), .inl ⟨rfl, hS.other 2 (by decide)⟩⟩⟩
  · exact ⟨_, [], rfl, rfl, by kernel_rfl, fun rr listed w' hsz hun hpl hS => ⟨.value (.int .u64 ((ln : Int) * 2 ^ 3)), w', by kernel_rfl, .inl ⟨rfl, hS.other 3 (by decide)⟩⟩⟩
  · exact ⟨_, [2, 3], rfl, rfl, by kernel_rfl, fun rr listed w' hsz hun hpl hS => by
      obtain rfl := hS.before hun
      refine ⟨.enter 40 #[(.slice (some ⟨gt, t, none⟩) (t + 8 - t) (72 - t)), (.int .u64 ((ln : Int) * 2 ^ 3))], w', by kernel_rfl, .inr (.inr ⟨_, _, rfl, ?_⟩)⟩
      refine (be8_put gt t (t + 8 - t) (72 - t) ((ln : Int) * 2 ^ 3) 76 _ w' att10 (by omega) (by simp; omega)).mono ?_
      rintro e w'' ⟨rfl, k1, k2⟩
      obtain ⟨t', ht'⟩ : ∃ t', t = t' + 1 := ⟨t - 1, by omega⟩
      rw [ht', pad_row (be8B ((ln : Int) * 2 ^ 3)) rfl t' (by omega)] at k1
      exact ⟨rfl, OneS.done hsz ⟨⟨_, (show ((128 : UInt8) :: List.replicate t' 0 ++ be8B ((ln : Int) * 2 ^ 3)) = padS ln by unfold padS; rw [← ht, ht']; rfl) ▸ k1⟩, k2⟩⟩⟩
  intro fr11 w11 listed hkn hall
  have hfr11 := hkn.fr hall [] (by kernel_rfl)
  show Code.wp _ _ _ _ _
  obtain ⟨⟨R, att4⟩, g34⟩ := hkn.st.end_ (hall 4 (by decide))
  have hat4 : At w11 g 62 (DCg (cellsS s) X q ln) := hat10.grown g34 (by simpa using hgtg.symm)
  have atr4 : At w11 gr 64 (List.replicate 20 (.int .u8 0)) := atr10.grown g34 (by simpa using hgtr.symm)
  have hplen : (padS ln).length = t + 8 := by rw [padS_len, ← ht]
  clear hkn hall
  refine wp_seq (reg_any (b := false) 8 77 [(0, (.pointer (some ⟨g, 0, none⟩))), (2, (.pointer (some ⟨gr, 0, none⟩))), (3, (.int .u64 ((ln : Int) * 2 ^ 3))), (4, (.pointer (some ⟨gt, 0, none⟩))), (5, (.int .u64 (t : Int))), (6, (.slice (some ⟨gt, 0, none⟩) (t + 8) 72))] (fun zz => [(.pointer (some ⟨g, 0, none⟩)), (.slice (some ⟨gt, 0, none⟩) (t + 8) 72), (.tuple #[.int .i64 ((t + 8 : Nat) : Int), .nilIface])].getD zz undef) (OneS 2 w11 (fun x => Dg 62 cellsS sha1G ivS x g (T ++ padS ln) ∧ w11.grownBy x (some g))) [0, 1, 2] hm (by kernel_rfl) (by kernel_rfl) (by kernel_rfl) (by kernel_rfl) hfr11 (OneS.start _) ⟨?_, ?_, ?_, trivial⟩ ?_)
  · exact ⟨_, [], rfl, rfl, by kernel_rfl, fun rr listed w' hsz hun hpl hS => ⟨.value (.pointer (some ⟨g, 0, none⟩)), w', by kernel_rfl, .inl ⟨rfl, hS.other 0 (by decide)⟩⟩⟩
  · exact ⟨_, [], rfl, rfl, by kernel_rfl, fun rr listed w' hsz hun hpl hS => ⟨.value (.slice (some ⟨gt, 0, none⟩) (t + 8) 72), w', by kernel_rfl, .inl ⟨rfl, hS.other 1 (by decide)⟩⟩⟩
  · exact ⟨_, [0, 1], rfl, rfl, by kernel_rfl, fun rr listed w' hsz hun hpl hS => by
      obtain rfl := hS.before hun
      refine ⟨.enter 17 #[(.pointer (some ⟨g, 0, none⟩)), (.slice (some ⟨gt, 0, none⟩) (t + 8) 72)], w', by kernel_rfl, .inr (.inr ⟨_, _, rfl, ?_⟩)⟩
      refine (sha1_write g T (padS ln) s X q (t + 8) 72 (some ⟨gt, 0, none⟩) hL w' (hln ▸ hat4) hplen att4.bytPre (.inr ⟨gt, 0, rfl, hgtg⟩) (by omega) (by omega) (by omega)).mono ?_
      rintro e w'' ⟨rfl, k1, k2⟩
      exact ⟨rfl, OneS.done hsz ⟨k1, k2⟩⟩⟩
  intro fr5 w5 listed hkn hall
  have hfr5 := hkn.fr hall [] (by kernel_rfl)
  show Code.wp _ _ _ _ _
  obtain ⟨⟨s', X', q', hL', hat5⟩, g45⟩ := hkn.st.end_ (hall 2 (by decide))
  have hX' : X'.length = 64 := hL'.2.2.1
  have hq' : q' = 0 := by rw [hL'.2.1, List.length_append, hln]; exact padS_full T.length
  have hs' : s' = endS T := by rw [hL'.1, hln]; rfl
  have atr5 : At w5 gr 64 (List.replicate 20 (.int .u8 0)) := atr4.grown g45 (by simpa using hgrg)
  have g05 : w0.grownBy w5 (some g) := grown_trans' (grown_off g10 g34 hgt0) g45
  obtain ⟨lf, hlf⟩ : ∃ z, z = (T ++ padS ln).length := ⟨_, rfl⟩
  rw [← hlf, hs', hq'] at hat5
  obtain ⟨SE, hSE⟩ : ∃ z, z = endS T := ⟨_, rfl⟩
  rw [← hSE] at hat5
  clear hkn hall hfr11 hat4 atr4 att4 g34 g45 hL hL' hs' hq' hlf
  refine wp_seq ?_
  refine seq_quiet (Drawn w5) 77 _ [(.pointer (some ⟨g, 0, none⟩)), (.pointer (some ⟨g, 0, none⟩)), (.pointer (some ⟨g, 69, none⟩)), (.int .i64 ((0 : Nat) : Int)), (.bool (((0 : Nat) : Int) != 0))] [none, none, none, some (.sem (Instr.loadAt 3 (.pointer (some ⟨g, 69, none⟩))) (.int .i64 ((0 : Nat) : Int))), none] [0, 2, 3, 4, 5, 6, 39] [(.pointer (some ⟨g, 0, none⟩)), (.pointer (some ⟨gr, 0, none⟩)), (.int .u64 ((ln : Int) * 2 ^ 3)), (.pointer (some ⟨gt, 0, none⟩)), (.int .u64 (t : Int)), (.slice (some ⟨gt, 0, none⟩) (t + 8) 72), (.bool (((0 : Nat) : Int) != 0))] hm (by kernel_rfl) (by kernel_rfl) hfr5 (fun r w => by kernel_rfl) (fun r => by kernel_rfl) (Drawn.refl w5) (fun _ => (Drawn.refl w5).drew) ⟨load_item (DCg_cells (sb := 5) hat5 rfl hX').1 Try.underlying3 rfl, trivial⟩ fun fr6 w6 hw6 hfr6 => ?_
  refine wp_cond_false ((hfr6.nth 6 rfl).trans rfl) (wp_skip ?_)
  show Code.wp _ _ _ _ _
  have hat6 := hw6.at_ hat5
  have atr6 := hw6.at_ atr5
  have g06 := hw6.grown g05
  refine wp_seq (reg_var 77 [(0, (.pointer (some ⟨g, 0, none⟩))), (2, (.pointer (some ⟨gr, 0, none⟩)))] 7 rfl rfl 64 rfl (.agg (List.replicate 20 (.int .u8 0)).toArray) (List.replicate 20 (.int .u8 0)) (fun w => by kernel_rfl) rfl (hfr6.sub [0, 1] rfl) (by decide) (by kernel_rfl) fun fr7 w7 hw7 hfr7 => ?_)
  show Code.wp _ _ _ _ _
  obtain ⟨gd, hgd⟩ : ∃ z, z = w6.heap.size := ⟨_, rfl⟩
  have atd0 : At w7 gd 64 (([] : List UInt8).map B8 ++ List.replicate 20 (.int .u8 0)) := hgd ▸ hw7.at_
  rw [← hgd] at hfr7
  have hgdg : gd ≠ g := by have := g06.size; omega
  have hgdr : gd ≠ gr := by have := atr6.lt; omega
  have hgd0 : w0.heap.size ≤ gd := by have := g06.size; omega
  have hatd0 : At w7 g 62 (DCg (cellsS SE) X' 0 lf) := hat6.grown hw7.grown (by simp)
  have atrd0 : At w7 gr 64 (List.replicate 20 (.int .u8 0)) := atr6.grown hw7.grown (by simp)
  have gd0 : w0.grownBy w7 (some g) := grown_trans' g06 (World.grownBy_mono' hw7.grown)
  clear hat5 hat6 atr5 atr6 g05 g06 hw6 hw7 hfr6 hfr5
  refine wp_seq (reg_any (b := true) 8 77 [(7, (.pointer (some ⟨gd, 0, none⟩))), (0, (.pointer (some ⟨g, 0, none⟩))), (2, (.pointer (some ⟨gr, 0, none⟩)))] (fun zz => [(.slice (some ⟨gd, 0, none⟩) 20 20), (.pointer (some ⟨g, 0, none⟩)), (.pointer (some ⟨g, 0, none⟩)), (.pointer (some ⟨g, 0, none⟩)), (.pointer (some ⟨g, 0, none⟩)), (.int .u32 SE.1), (.tuple #[])].getD zz undef) (OneS 6 w7.drew (fun x => At x gd 64 ((([] : List UInt8) ++ be4B SE.1).map B8 ++ List.replicate (20 - 4) (.int .u8 0)) ∧ w7.drew.grownBy x (some gd))) [0, 1, 2, 3, 4, 5, 6] hm (by kernel_rfl) (by kernel_rfl) (by kernel_rfl) (by kernel_rfl) hfr7 (OneS.start _) ⟨?_, ?_, ?_, ?_, ?_, ?_, ?_, trivial⟩ ?_)
  · exact ⟨_, [], rfl, rfl, by kernel_rfl, fun rr listed w' hsz hun hpl hS => ⟨.value (.slice (some ⟨gd, 0, none⟩) 20 20), w', by kernel_rfl, .inl ⟨rfl, hS.other 0 (by decide)⟩⟩⟩
  · exact ⟨_, [], rfl, rfl, by kernel_rfl, fun rr listed w' hsz hun hpl hS => ⟨.value (.pointer (some ⟨g, 0, none⟩)), w', by kernel_rfl, .inl ⟨rfl, hS.other 1 (by decide)⟩⟩⟩
  · exact ⟨_, [1], rfl, rfl, by kernel_rfl, fun rr listed w' hsz hun hpl hS => ⟨.value (.pointer (some ⟨g, 0, none⟩)), w', by kernel_rfl, .inl ⟨rfl, hS.other 2 (by decide)⟩⟩⟩
  · exact ⟨_, [2], rfl, rfl, by kernel_rfl, fun rr listed w' hsz hun hpl hS => ⟨.value (.pointer (some ⟨g, 0, none⟩)), w', by kernel_rfl, .inl ⟨rfl, hS.other 3 (by decide)⟩⟩⟩
  · exact ⟨_, [3], rfl, rfl, by kernel_rfl, fun rr listed w' hsz hun hpl hS => ⟨.value (.pointer (some ⟨g, 0, none⟩)), w', by kernel_rfl, .inl ⟨rfl, hS.other 4 (by decide)⟩⟩⟩
  · exact ⟨_, [4], rfl, rfl, by kernel_rfl, fun rr listed w' hsz hun hpl hS => ⟨.value (.int .u32 SE.1), w', load_run (b := g) (k := 0) rfl (by kernel_rfl) (hS.both (R := fun x => x.cell? ⟨g, 0, none⟩ = some (.int .u32 SE.1)) (hatd0.drew.cell 0 (by rw [DCg_len (sb := 5) rfl hX']; omega)) (fun x hx => (hatd0.drew.grown hx.2 (by simpa using hgdg.symm)).cell 0 (by rw [DCg_len (sb := 5) rfl hX']; omega))) Try.underlying52 rfl, .inl ⟨rfl, hS.other 5 (by decide)⟩⟩⟩
  · exact ⟨_, [0, 5], rfl, rfl, by kernel_rfl, fun rr listed w' hsz hun hpl hS => by
      obtain rfl := hS.before hun
      refine ⟨.enter 41 #[(.slice (some ⟨gd, 0, none⟩) 20 20), (.int .u32 SE.1)], w7.drew, by kernel_rfl, .inr (.inr ⟨_, _, rfl, ?_⟩)⟩
      refine (be4_put gd 0 20 20 SE.1 64 _ w7.drew atd0 (by decide) (by simp)).mono ?_
      rintro e w'' ⟨rfl, k1, k2⟩
      rw [row_add ([] : List UInt8) (be4B SE.1) 20 0 rfl (by decide) rfl] at k1
      exact ⟨rfl, OneS.done hsz ⟨k1, k2⟩⟩⟩
  intro frd1 wd1 listed hkn hall
  have hfrd1 := hkn.fr hall [] (by kernel_rfl)
  show Code.wp _ _ _ _ _
  obtain ⟨atd1, gs1⟩ := hkn.st.end_ (hall 6 (by decide))
  have hatd1 : At wd1 g 62 (DCg (cellsS SE) X' 0 lf) := hatd0.drew.grown gs1 (by simpa using hgdg.symm)
  have atrd1 : At wd1 gr 64 (List.replicate 20 (.int .u8 0)) := atrd0.drew.grown gs1 (by simpa using hgdr.symm)
  have gd1 : w0.grownBy wd1 (some g) := grown_off (grown_drew gd0) gs1 hgd0
  clear hkn hall gs1 gd0 atrd0 hatd0 atd0 hfr7
  refine wp_seq (reg_any (b := true) 8 77 [(7, (.pointer (some ⟨gd, 0, none⟩))), (0, (.pointer (some ⟨g, 0, none⟩))), (2, (.pointer (some ⟨gr, 0, none⟩)))] (fun zz => [(.slice (some ⟨gd, 4, none⟩) 16 16), (.pointer (some ⟨g, 0, none⟩)), (.pointer (some ⟨g, 0, none⟩)), (.pointer (some ⟨g, 0, none⟩)), (.pointer (some ⟨g, 1, none⟩)), (.int .u32 SE.2.1), (.tuple #[])].getD zz undef) (OneS 6 wd1.drew (fun x => At x gd 64 (((([] : List UInt8) ++ be4B SE.1) ++ be4B SE.2.1).map B8 ++ List.replicate (16 - 4) (.int .u8 0)) ∧ wd1.drew.grownBy x (some gd))) [0, 1, 2, 3, 4, 5, 6] hm (by kernel_rfl) (by kernel_rfl) (by kernel_rfl) (by kernel_rfl) hfrd1 (OneS.start _) ⟨?_, ?_, ?_, ?_, ?_, ?_, ?_, trivial⟩ ?_)
  · exact ⟨_, [], rfl, rfl, by kernel_rfl, fun rr listed w' hsz hun hpl hS => ⟨.value (.slice (some ⟨gd, 4, none⟩) 16 16), w', by kernel_rfl, .inl ⟨rfl, hS.other 0 (by decide)⟩⟩⟩
  · exact ⟨_, [], rfl, rfl, by kernel_rfl, fun rr listed w' hsz hun hpl hS => ⟨.value (.pointer (some ⟨g, 0, none⟩)), w', by kernel_rfl, .inl ⟨rfl, hS.other 1 (by decide)⟩⟩⟩
  · exact ⟨_, [1], rfl, rfl, by kernel_rfl, fun rr listed w' hsz hun hpl hS => ⟨.value (.pointer (some ⟨g, 0, none⟩)), w', by kernel_rfl, .inl ⟨rfl, hS.other 2 (by decide)⟩⟩⟩
  · exact ⟨_, [2], rfl, rfl, by kernel_rfl, fun rr listed w' hsz hun hpl hS => ⟨.value (.pointer (some ⟨g, 0, none⟩)), w', by kernel_rfl, .inl ⟨rfl, hS.other 3 (by decide)⟩⟩⟩
  · exact ⟨_, [3], rfl, rfl, by kernel_rfl, fun rr listed w' hsz hun hpl hS => ⟨.value (.pointer (some ⟨g, 1, none⟩)), w', by kernel_rfl, .inl ⟨rfl, hS.other 4 (by decide)⟩⟩⟩
  · exact ⟨_, [4], rfl, rfl, by kernel_rfl, fun rr listed w' hsz hun hpl hS => ⟨.value (.int .u32 SE.2.1), w', load_run (b := g) (k := 1) rfl (by kernel_rfl) (hS.both (R := fun x => x.cell? ⟨g, 1, none⟩ = some (.int .u32 SE.2.1)) (hatd1.drew.cell 1 (by rw [DCg_len (sb := 5) rfl hX']; omega)) (fun x hx => (hatd1.drew.grown hx.2 (by simpa using hgdg.symm)).cell 1 (by rw [DCg_len (sb := 5) rfl hX']; omega))) Try.underlying52 rfl, .inl ⟨rfl, hS.other 5 (by decide)⟩⟩⟩
  · exact ⟨_, [0, 5], rfl, rfl, by kernel_rfl, fun rr listed w' hsz hun hpl hS => by
      obtain rfl := hS.before hun
      refine ⟨.enter 41 #[(.slice (some ⟨gd, 4, none⟩) 16 16), (.int .u32 SE.2.1)], wd1.drew, by kernel_rfl, .inr (.inr ⟨_, _, rfl, ?_⟩)⟩
      refine (be4_put gd 4 16 16 SE.2.1 64 _ wd1.drew atd1 (by decide) (by simp [be4B])).mono ?_
      rintro e w'' ⟨rfl, k1, k2⟩
      rw [row_add (([] : List UInt8) ++ be4B SE.1) (be4B SE.2.1) 16 4 rfl (by decide) rfl] at k1
      exact ⟨rfl, OneS.done hsz ⟨k1, k2⟩⟩⟩
  intro frd2 wd2 listed hkn hall
  have hfrd2 := hkn.fr hall [] (by kernel_rfl)
  show Code.wp _ _ _ _ _
  obtain ⟨atd2, gs2⟩ := hkn.st.end_ (hall 6 (by decide))
  have hatd2 : At wd2 g 62 (DCg (cellsS SE) X' 0 lf) := hatd1.drew.grown gs2 (by simpa using hgdg.symm)
  have atrd2 : At wd2 gr 64 (List.replicate 20 (.int .u8 0)) := atrd1.drew.grown gs2 (by simpa using hgdr.symm)
  have gd2 : w0.grownBy wd2 (some g) := grown_off (grown_drew gd1) gs2 hgd0
  clear hkn hall gs2 gd1 atrd1 hatd1 atd1 hfrd1
  refine wp_seq (reg_any (b := true) 8 77 [(7, (.pointer (some ⟨gd, 0, none⟩))), (0, (.pointer (some ⟨g, 0, none⟩))), (2, (.pointer (some ⟨gr, 0, none⟩)))] (fun zz => [(.slice (some ⟨gd, 8, none⟩) 12 12), (.pointer (some ⟨g, 0, none⟩)), (.pointer (some ⟨g, 0, none⟩)), (.pointer (some ⟨g, 0, none⟩)), (.pointer (some ⟨g, 2, none⟩)), (.int .u32 SE.2.2.1), (.tuple #[])].getD zz undef) (OneS 6 wd2.drew (fun x => At x gd 64 ((((([] : List UInt8) ++ be4B SE.1) ++ be4B SE.2.1) ++ be4B SE.2.2.1).map B8 ++ List.replicate (12 - 4) (.int .u8 0)) ∧ wd2.drew.grownBy x (some gd))) [0, 1, 2, 3, 4, 5, 6] hm (by kernel_rfl) (by kernel_rfl) (by kernel_rfl) (by kernel_rfl) hfrd2 (OneS.start _) ⟨?_, ?_, ?_, ?_, ?_, ?_, ?_, trivial⟩ ?_)
  · exact ⟨_, [], rfl, rfl, by kernel_rfl, fun rr listed w' hsz hun hpl hS => ⟨.value (.slice (some ⟨gd, 8, none⟩) 12 12), w', by kernel_rfl, .inl ⟨rfl, hS.other 0 (by decide)⟩⟩⟩
  · exact ⟨_, [], rfl, rfl, by kernel_rfl, fun rr listed w' hsz hun hpl hS => ⟨.value (.pointer (some ⟨g, 0, none⟩)), w', by kernel_rfl, .inl ⟨rfl, hS.other 1 (by decide)⟩⟩⟩
  · exact ⟨_, [1], rfl, rfl, by kernel_rfl, fun rr listed w' hsz hun hpl hS => ⟨.value (.pointer (some ⟨g, 0, none⟩)), w', by kernel_rfl, .inl ⟨rfl, hS.other 2 (by decide)⟩⟩⟩
  · exact ⟨_, [2], rfl, rfl, by kernel_rfl, fun rr listed w' hsz hun hpl hS => ⟨.value (.pointer (some ⟨g, 0, none⟩)), w', by kernel_rfl, .inl ⟨rfl, hS.other 3 (by decide)⟩⟩⟩
  · exact ⟨_, [3], rfl, rfl, by kernel_rfl, fun rr listed w' hsz hun hpl hS => ⟨.value (.pointer (some ⟨g, 2, none⟩)), w', by kernel_rfl, .inl ⟨rfl, hS.other 4 (by decide)⟩⟩⟩
  · exact ⟨_, [4], rfl, rfl, by kernel_rfl, fun rr listed w' hsz hun hpl hS => ⟨.value (.int .u32 SE.2.2.1), w', load_run (b := g) (k := 2) rfl (by kernel_rfl) (hS.both (R := fun x => x.cell? ⟨g, 2, none⟩ = some (.int .u32 SE.2.2.1)) (hatd2.drew.cell 2 (by rw [DCg_len (sb := 5) rfl hX']; omega)) (fun x hx => (hatd2.drew.grown hx.2 (by simpa using hgdg.symm)).cell 2 (by rw [DCg_len (sb := 5) rfl hX']; omega))) Try.underlying52 rfl, .inl ⟨rfl, hS.other 5 (by decide)⟩⟩⟩
  · exact ⟨_, [0, 5], rfl, rfl, by kernel_rfl, fun rr listed w' hsz hun hpl hS => by
      obtain rfl := hS.before hun
      refine ⟨.enter 41 #[(.slice (some ⟨gd, 8, none⟩) 12 12), (.int .u32 SE.2.2.1)], wd2.drew, by kernel_rfl, .inr (.inr ⟨_, _, rfl, ?_⟩)⟩
      refine (be4_put gd 8 12 12 SE.2.2.1 64 _ wd2.drew atd2 (by decide) (by simp [be4B])).mono ?_
      rintro e w'' ⟨rfl, k1, k2⟩
      rw [row_add ((([] : List UInt8) ++ be4B SE.1) ++ be4B SE.2.1) (be4B SE.2.2.1) 12 8 rfl (by decide) rfl] at k1
      exact ⟨rfl, OneS.done hsz ⟨k1, k2⟩⟩⟩
  intro frd3 wd3 listed hkn hall
  have hfrd3 := hkn.fr hall [] (by kernel_rfl)
  show Code.wp _ _ _ _ _
  obtain ⟨atd3, gs3⟩ := hkn.st.end_ (hall 6 (by decide))
  have hatd3 : At wd3 g 62 (DCg (cellsS SE) X' 0 lf) := hatd2.drew.grown gs3 (by simpa using hgdg.symm)
  have atrd3 : At wd3 gr 64 (List.replicate 20 (.int .u8 0)) := atrd2.drew.grown gs3 (by simpa using hgdr.symm)
  have gd3 : w0.grownBy wd3 (some g) := grown_off (grown_drew gd2) gs3 hgd0
  clear hkn hall gs3 gd2 atrd2 hatd2 atd2 hfrd2
  refine wp_seq (reg_any (b := true) 8 77 [(7, (.pointer (some ⟨gd, 0, none⟩))), (0, (.pointer (some ⟨g, 0, none⟩))), (2, (.pointer (some ⟨gr, 0, none⟩)))] (fun zz => [(.slice (some ⟨gd, 12, none⟩) 8 8), (.pointer (some ⟨g, 0, none⟩)), (.pointer (some ⟨g, 0, none⟩)), (.pointer (some ⟨g, 0, none⟩)), (.pointer (some ⟨g, 3, none⟩)), (.int .u32 SE.2.2.2.1), (.tuple #[])].getD zz undef) (OneS 6 wd3.drew (fun x => At x gd 64 (((((([] : List UInt8) ++ be4B SE.1) ++ be4B SE.2.1) ++ be4B SE.2.2.1) ++ be4B SE.2.2.2.1).map B8 ++ List.replicate (8 - 4) (.int .u8 0)) ∧ wd3.drew.grownBy x (some gd))) [0, 1, 2, 3, 4, 5, 6] hm (by kernel_rfl) (by kernel_rfl) (by kernel_rfl) (by kernel_rfl) hfrd3 (OneS.start _) ⟨?_, ?_, ?_, ?_, ?_, ?_, ?_, trivial⟩ ?_)
  · exact ⟨_, [], rfl, rfl, by kernel_rfl, fun rr listed w' hsz hun hpl hS => ⟨.value (.slice (some ⟨gd, 12, none⟩) 8 8), w', by kernel_rfl, .inl ⟨rfl, hS.other 0 (by decide)⟩⟩⟩
  · exact ⟨_, [], rfl, rfl, by kernel_rfl, fun rr listed w' hsz hun hpl hS => ⟨.value (.pointer (some ⟨g, 0, none⟩)), w', by kernel_rfl, .inl ⟨rfl, hS.other 1 (by decide)⟩⟩⟩
  · exact ⟨_, [1], rfl, rfl, by kernel_rfl, fun rr listed w' hsz hun hpl hS => ⟨.value (.pointer (some ⟨g, 0, none⟩)), w', by kernel_rfl, .inl ⟨rfl, hS.other 2 (by decide)⟩⟩⟩
  · exact ⟨_, [2], rfl, rfl, by kernel_rfl, fun rr listed w' hsz hun hpl hS => ⟨.value (.pointer (some ⟨g, 0, none⟩)), w', by kernel_rfl, .inl ⟨rfl, hS.other 3 (by decide)⟩⟩⟩
  · exact ⟨_, [3], rfl, rfl, by kernel_rfl, fun rr listed w' hsz hun hpl hS => ⟨.value (.pointer (some ⟨g, 3, none⟩)), w', by kernel_rfl, .inl ⟨rfl, hS.other 4 (by decide)⟩⟩⟩
  · exact ⟨_, [4], rfl, rfl, by kernel_rfl, fun rr listed w' hsz hun hpl hS => ⟨.value (.int .u32 SE.2.2.2.1), w', load_run (b := g) (k := 3) rfl (by kernel_rfl) (hS.both (R := fun x => x.cell? ⟨g, 3, none⟩ = some (.int .u32 SE.2.2.2.1)) (hatd3.drew.cell 3 (by rw [DCg_len (sb := 5) rfl hX']; omega)) (fun x hx => (hatd3.drew.grown hx.2 (by simpa using hgdg.symm)).cell 3 (by rw [DCg_len (sb := 5) rfl hX']; omega))) Try.underlying52 rfl, .inl ⟨rfl, hS.other 5 (by decide)⟩⟩⟩
  · exact ⟨_, [0, 5], rfl, rfl, by kernel_rfl, fun rr listed w' hsz hun hpl hS => by
      obtain rfl := hS.before hun
      refine ⟨.enter 41 #[(.slice (some ⟨gd, 12, none⟩) 8 8), (.int .u32 SE.2.2.2.1)], wd3.drew, by kernel_rfl, .inr (.inr ⟨_, _, rfl, ?_⟩)⟩
      refine (be4_put gd 12 8 8 SE.2.2.2.1 64 _ wd3.drew atd3 (by decide) (by simp [be4B])).mono ?_
      rintro e w'' ⟨rfl, k1, k2⟩
      rw [row_add (((([] : List UInt8) ++ be4B SE.1) ++ be4B SE.2.1) ++ be4B SE.2.2.1) (be4B SE.2.2.2.1) 8 12 rfl (by decide) rfl] at k1
      exact ⟨rfl, OneS.done hsz ⟨k1, k2⟩⟩⟩
  intro frd4 wd4 listed hkn hall
  have hfrd4 := hkn.fr hall [] (by kernel_rfl)
  show Code.wp _ _ _ _ _
  obtain ⟨atd4, gs4⟩ := hkn.st.end_ (hall 6 (by decide))
  have hatd4 : At wd4 g 62 (DCg (cellsS SE) X' 0 lf) := hatd3.drew.grown gs4 (by simpa using hgdg.symm)
  have atrd4 : At wd4 gr 64 (List.replicate 20 (.int .u8 0)) := atrd3.drew.grown gs4 (by simpa using hgdr.symm)
  have gd4 : w0.grownBy wd4 (some g) := grown_off (grown_drew gd3) gs4 hgd0
  clear hkn hall gs4 gd3 atrd3 hatd3 atd3 hfrd3
  refine wp_seq (reg_any (b := true) 8 77 [(7, (.pointer (some ⟨gd, 0, none⟩))), (0, (.pointer (some ⟨g, 0, none⟩))), (2, (.pointer (some ⟨gr, 0, none⟩)))] (fun zz => [(.slice (some ⟨gd, 16, none⟩) 4 4), (.pointer (some ⟨g, 0, none⟩)), (.pointer (some ⟨g, 0, none⟩)), (.pointer (some ⟨g, 0, none⟩)), (.pointer (some ⟨g, 4, none⟩)), (.int .u32 SE.2.2.2.2), (.tuple #[])].getD zz undef) (OneS 6 wd4.drew (fun x => At x gd 64 ((((((([] : List UInt8) ++ be4B SE.1) ++ be4B SE.2.1) ++ be4B SE.2.2.1) ++ be4B SE.2.2.2.1) ++ be4B SE.2.2.2.2).map B8 ++ List.replicate (4 - 4) (.int .u8 0)) ∧ wd4.drew.grownBy x (some gd))) [0, 1, 2, 3, 4, 5, 6] hm (by kernel_rfl) (by kernel_rfl) (by kernel_rfl) (by kernel_rfl) hfrd4 (OneS.start _) ⟨?_, ?_, ?_, ?_, ?_, ?_, ?_, trivial⟩ ?_)
  · exact ⟨_, [], rfl, rfl, by kernel_rfl, fun rr listed w' hsz hun hpl hS => ⟨.value (.slice (some ⟨gd, 16, none⟩) 4 4), w', by kernel_rfl, .inl ⟨rfl, hS.other 0 (by decide)⟩⟩⟩
  · exact ⟨_, [], rfl, rfl, by kernel_rfl, fun rr listed w' hsz hun hpl hS => ⟨.value (.pointer (some ⟨g, 0, none⟩)), w', by kernel_rfl, .inl ⟨rfl, hS.other 1 (by decide)⟩⟩⟩
  · exact ⟨_, [1], rfl, rfl, by kernel_rfl, fun rr listed w' hsz hun hpl hS => ⟨.value (.pointer (some ⟨g, 0, none⟩)), w', by kernel_rfl, .inl ⟨rfl, hS.other 2 (by decide)⟩⟩⟩
  · exact ⟨_, [2], rfl, rfl, by kernel_rfl, fun rr listed w' hsz hun hpl hS => ⟨.value (.pointer (some ⟨g, 0, none⟩)), w', by kernel_rfl, .inl ⟨rfl, hS.other 3 (by decide)⟩⟩⟩
  · exact ⟨_, [3], rfl, rfl, by kernel_rfl, fun rr listed w' hsz hun hpl hS => ⟨.value (.pointer (some ⟨g, 4, none⟩)), w', by kernel_rfl, .inl ⟨rfl, hS.other 4 (by decide)⟩⟩⟩
  · exact ⟨_, [4], rfl, rfl, by kernel_rfl, fun rr listed w' hsz hun hpl hS => ⟨.value (.int .u32 SE.2.2.2.2), w', load_run (b := g) (k := 4) rfl (by kernel_rfl) (hS.both (R := fun x => x.cell? ⟨g, 4, none⟩ = some (.int .u32 SE.2.2.2.2)) (hatd4.drew.cell 4 (by rw [DCg_len (sb := 5) rfl hX']; omega)) (fun x hx => (hatd4.drew.grown hx.2 (by simpa using hgdg.symm)).cell 4 (by rw [DCg_len (sb := 5) rfl hX']; omega))) Try.underlying52 rfl, .inl ⟨rfl, hS.other 5 (by decide)⟩⟩⟩
  · exact ⟨_, [0, 5], rfl, rfl, by kernel_rfl, fun rr listed w' hsz hun hpl hS => by
      obtain rfl := hS.before hun
      refine ⟨.enter 41 #[(.slice (some ⟨gd, 16, none⟩) 4 4), (.int .u32 SE.2.2.2.2)], wd4.drew, by kernel_rfl, .inr (.inr ⟨_, _, rfl, ?_⟩)⟩
      refine (be4_put gd 16 4 4 SE.2.2.2.2 64 _ wd4.drew atd4 (by decide) (by simp [be4B])).mono ?_
      rintro e w'' ⟨rfl, k1, k2⟩
      rw [row_add ((((([] : List UInt8) ++ be4B SE.1) ++ be4B SE.2.1) ++ be4B SE.2.2.1) ++ be4B SE.2.2.2.1) (be4B SE.2.2.2.2) 4 16 rfl (by decide) rfl] at k1
      exact ⟨rfl, OneS.done hsz ⟨k1, k2⟩⟩⟩
  intro frd5 wd5 listed hkn hall
  have hfrd5 := hkn.fr hall [] (by kernel_rfl)
  show Code.wp _ _ _ _ _
  obtain ⟨atd5, gs5⟩ := hkn.st.end_ (hall 6 (by decide))
  have hatd5 : At wd5 g 62 (DCg (cellsS SE) X' 0 lf) := hatd4.drew.grown gs5 (by simpa using hgdg.symm)
  have atrd5 : At wd5 gr 64 (List.replicate 20 (.int .u8 0)) := atrd4.drew.grown gs5 (by simpa using hgdr.symm)
  have gd5 : w0.grownBy wd5 (some g) := grown_off (grown_drew gd4) gs5 hgd0
  clear hkn hall gs5 gd4 atrd4 hatd4 atd4 hfrd4
  have hfin : (((((([] : List UInt8) ++ be4B SE.1) ++ be4B SE.2.1) ++ be4B SE.2.2.1) ++ be4B SE.2.2.2.1) ++ be4B SE.2.2.2.2).map B8 ++ List.replicate (4 - 4) (.int .u8 0) = (sumS1 T).map B8 := by
    rw [hSE]
    unfold sumS1
    simp
  rw [hfin] at atd5
  have hlen : ((sumS1 T).map B8).length = 20 := by simp [sumS1, be4B]
  have hsz : (Try.prog.info? 64).map (·.size) = some ((sumS1 T).map B8).length := by rw [hlen]; kernel_rfl
  refine wp_seq (reg_move 77 [(7, (.pointer (some ⟨gd, 0, none⟩))), (0, (.pointer (some ⟨g, 0, none⟩))), (2, (.pointer (some ⟨gr, 0, none⟩)))] 64 7 2 76 gd gr _ _ _ rfl rfl rfl rfl rfl rfl hfrd5 (by decide) (by kernel_rfl) (by simp) (by simp) atd5 atrd5 Try.underlying64 rfl hsz (by rw [List.length_replicate, hlen]) (B8_one _) fun frz wz hwz hfrz => ?_)
  refine wp_ret ?_
  refine bodyPost_ret (results_cell_row rfl _ _ gr 64 ((sumS1 T).map B8).toArray (0, 0) _ (hfrz.get (j := 2) (by simp)) hwz.at_ Try.underlying64 rfl (by simpa using hsz)) hfrz.2.1 ?_
  exact ⟨rfl, grown_off gd5 hwz.grown (by omega)⟩
end Go.Proofs.Ytahkgkonpjimpaa
