/-
  md5's checkSum: the sum of the stream.
-/
import Derived.Test.YtahkgkonpjimpaaSumAid
namespace Go.Proofs.Ytahkgkonpjimpaa
open Go.RowKit
set_option linter.unusedVariables false
theorem row_add (A D : List UInt8) (n o : Nat) (hD : D.length = 4) (hn : 4 ≤ n) (ho : o = A.length) : splice (A.map B8 ++ List.replicate n (.int .u8 0)) o (D.map B8) = (A ++ D).map B8 ++ List.replicate (n - 4) (.int .u8 0) := by
  subst ho
  have h := splice_app (A.map B8) (List.replicate n (Value.int .u8 0)) (D.map B8) 0
  rw [List.length_map, Nat.add_zero] at h
  rw [h]
  unfold splice
  simp [hD]
set_option maxRecDepth 1000000 in
set_option maxHeartbeats 40000000 in
theorem md5_checkSum (g : Nat) (T : List UInt8) (hT : T.length ≤ 300) (w0 : World) (hd0 : Dg 57 cellsM md5G ivM w0 g T) :
    Calls Try.prog 28 #[(.pointer (some ⟨g, 0, none⟩))] w0 fun e w' => e = .returned (.agg ((sumM T).map B8).toArray) ∧ w0.grownBy w' (some g) := by
  have hm : Try.prog.follows .mixedOrders = true := by kernel_rfl
  have hgl := hd0.lt
  obtain ⟨ln, hln⟩ : ∃ z, z = T.length := ⟨_, rfl⟩
  go_enter Try.func28, Try.ntmps28
  refine fr_start 63 [(0, (.pointer (some ⟨g, 0, none⟩)))] ⟨by kernel_rfl, rfl, List.forall_mem_cons.2 ⟨by kernel_rfl, fun _ h => by cases h⟩⟩ fun fr0 hfr0 => ?_
  refine wp_seq (reg_var 63 _ 2 rfl rfl 29 rfl (.agg (List.replicate 16 (.int .u8 0)).toArray) (List.replicate 16 (.int .u8 0)) (fun w => by kernel_rfl) rfl hfr0 (by decide) (by kernel_rfl) fun fr1 w1 hw1 hfr1 => ?_)
  show Code.wp _ _ _ _ _
  obtain ⟨gr, hgr⟩ : ∃ z, z = w0.heap.size := ⟨_, rfl⟩
  have atr1 : At w1 gr 29 (List.replicate 16 (.int .u8 0)) := hgr ▸ hw1.at_
  rw [← hgr] at hfr1
  have hd1 := hd0.keep hw1.grown (by simp)
  have g01 : w0.grownBy w1 (some g) := World.grownBy_mono' hw1.grown
  have hgrg : gr ≠ g := by omega
  refine wp_seq (reg_build 63 _ 6 3 76 76 #[(0, .const (.int .u8 128))] #[(0, .int .u8 128)] (.int .u8 128 :: List.replicate 71 (.int .u8 0)) (List.replicate 72 (.int .u8 0)) rfl rfl rfl rfl rfl rfl rfl rfl rfl (fun _ => by kernel_rfl) (fun w => by kernel_rfl) (.agg (List.replicate 72 (.int .u8 0)).toArray) (fun w => by kernel_rfl) rfl (by kernel_rfl) rfl (by decide) hfr1 (by decide) (by decide) (by decide) (by kernel_rfl) (by kernel_rfl) fun fr2 w2 g12 att2 hfr2 => ?_)
  show Code.wp _ _ _ _ _
  obtain ⟨gt, hgt⟩ : ∃ z, z = w1.heap.size := ⟨_, rfl⟩
  rw [← hgt] at att2 hfr2
  have hgtg : gt ≠ g := by have := g01.size; omega
  have hgtr : gt ≠ gr := by have := atr1.lt; omega
  have hd2 := hd1.keep g12 (by simp)
  have atr2 : At w2 gr 29 (List.replicate 16 (.int .u8 0)) := atr1.grown g12 (by simp)
  have g02 : w0.grownBy w2 (some g) := grown_trans' g01 (World.grownBy_mono' g12)
  obtain ⟨s, X, q, hL, hat2⟩ := hd2
  rw [← hln] at hat2
  have hX : X.length = 64 := hL.2.2.1
  obtain ⟨pd, hpd⟩ : ∃ z, z = padN ln := ⟨_, rfl⟩
  have hpI : (IntKind.u64.wrap (55 - (ln : Int))).tmod 64 = (pd : Int) := by rw [hpd]; exact padN_I ⟨ln, by omega⟩
  have hpd64 : pd ≤ 63 := by rw [hpd]; unfold padN; omega
  refine seq_quiet (Drawn w2) 63 _ [(.pointer (some ⟨g, 0, none⟩)), (.pointer (some ⟨g, 0, none⟩)), (.pointer (some ⟨g, 69, none⟩)), (.int .u64 (ln : Int)), (.int .u64 (IntKind.u64.wrap (55 - (ln : Int)))), (.int .u64 ((IntKind.u64.wrap (55 - (ln : Int))).tmod 64)), (.int .u64 ((IntKind.u64.wrap (55 - (ln : Int))).tmod 64))] [none, none, none, some (.sem (Instr.loadAt 55 (.pointer (some ⟨g, 69, none⟩))) (.int .u64 (ln : Int))), none, none, none] [0, 2, 3, 4] [(.pointer (some ⟨g, 0, none⟩)), (.pointer (some ⟨gr, 0, none⟩)), (.pointer (some ⟨gt, 0, none⟩)), (.int .u64 (pd : Int))] hm (by kernel_rfl) (by kernel_rfl) hfr2 (fun r w => by kernel_rfl) (fun r => by rw [← hpI]; kernel_rfl) (Drawn.refl w2) (fun _ => (Drawn.refl w2).drew) ⟨load_item (DCg_cells (sb := 4) hat2 rfl hX).2.1 Try.underlying55 rfl, trivial⟩ fun fr3 w3 hw3 hfr3 => ?_
  have hat3 := hw3.at_ hat2
  have atr3 := hw3.at_ atr2
  have att3 := hw3.at_ att2
  have g03 := hw3.grown g02
  have hp1 : IntKind.u64.wrap (1 + (pd : Int)) = ((pd + 1 : Nat) : Int) := by rw [u64_small (1 + (pd : Int)) (by omega)]; omega
  have hp9 : IntKind.u64.wrap (IntKind.u64.wrap (1 + (pd : Int)) + 8) = ((pd + 9 : Nat) : Int) := by rw [hp1, u64_small _ (by omega)]; omega
  have hsh : IntKind.u64.wrap ((ln : Int) * 2 ^ 3) = (ln : Int) * 2 ^ 3 := u64_small _ (by omega)
  clear hfr2 hw3 hat2 atr2 att2 g02 g12
  refine wp_seq (reg_any (b := true) 6 63 [(0, (.pointer (some ⟨g, 0, none⟩))), (2, (.pointer (some ⟨gr, 0, none⟩))), (3, (.pointer (some ⟨gt, 0, none⟩))), (4, (.int .u64 (pd : Int)))] (fun zz => [(.int .u64 (pd : Int)), (.int .u64 (IntKind.u64.wrap (1 + (pd : Int)))), (.slice (some ⟨gt, pd + 1, none⟩) (72 - (pd + 1)) (72 - (pd + 1))), (.pointer (some ⟨g, 0, none⟩)), (.pointer (some ⟨g, 0, none⟩)), (.pointer (some ⟨g, 69, none⟩)), (.int .u64 (ln : Int)), (.int .u64 (IntKind.u64.wrap ((ln : Int) * 2 ^ 3))), (.tuple #[])].getD zz undef) (OneS 8 w3.drew (fun x => At x gt 76 (((128 : UInt8) :: List.replicate pd 0 ++ le8B ((ln : Int) * 2 ^ 3)).map B8 ++ List.replicate (63 - pd) (.int .u8 0)) ∧ w3.drew.grownBy x (some gt))) [0, 1, 2, 3, 4, 5, 6, 7, 8] hm (by kernel_rfl) (by kernel_rfl) (by kernel_rfl) (by kernel_rfl) hfr3 (OneS.start _) ⟨?_, ?_, ?_, ?_, ?_, ?_, ?_, ?_, ?_, trivial⟩ ?_)
  · exact ⟨_, [], rfl, rfl, by kernel_rfl, fun rr listed w' hsz hun hpl hS => ⟨.value (.int .u64 (pd : Int)), w', by kernel_rfl, .inl ⟨rfl, hS.other 0 (by decide)⟩⟩⟩
  · exact ⟨_, [0], rfl, rfl, by kernel_rfl, fun rr listed w' hsz hun hpl hS => ⟨.value (.int .u64 (IntKind.u64.wrap (1 + (pd : Int)))), w', by kernel_rfl, .inl ⟨rfl, hS.other 1 (by decide)⟩⟩⟩
  · exact ⟨_, [1], rfl, rfl, by kernel_rfl, fun rr listed w' hsz hun hpl hS => ⟨.value (.slice (some ⟨gt, pd + 1, none⟩) (72 - (pd + 1)) (72 - (pd + 1))), w', slice_run rfl (X := (.pointer (some ⟨gt, 0, none⟩))) (L := some (.int .u64 (IntKind.u64.wrap (1 + (pd : Int))))) (H := none) (M := none) (by kernel_rfl) (by kernel_rfl) rfl rfl (by rw [hp1]; exact slice72 gt (pd + 1) (by omega) w'), .inl ⟨rfl, hS.other 2 (by decide)⟩⟩⟩
  · exact ⟨_, [], rfl, rfl, by kernel_rfl, fun rr listed w' hsz hun hpl hS => ⟨.value (.pointer (some ⟨g, 0, none⟩)), w', by kernel_rfl, .inl ⟨rfl, hS.other 3 (by decide)⟩⟩⟩
  · exact ⟨_, [3], rfl, rfl, by kernel_rfl, fun rr listed w' hsz hun hpl hS => ⟨.value (.pointer (some ⟨g, 0, none⟩)), w', by kernel_rfl, .inl ⟨rfl, hS.other 4 (by decide)⟩⟩⟩
  · exact ⟨_, [4], rfl, rfl, by kernel_rfl, fun rr listed w' hsz hun hpl hS => ⟨.value (.pointer (some ⟨g, 69, none⟩)), w', by kernel_rfl, .inl ⟨rfl, hS.other 5 (by decide)⟩⟩⟩
  · exact ⟨_, [5], rfl, rfl, by kernel_rfl, fun rr listed w' hsz hun hpl hS => ⟨.value (.int .u64 (ln : Int)), w', load_run (b := g) (k := 69) rfl (by kernel_rfl) (hS.both (R := fun x => x.cell? ⟨g, 69, none⟩ = some (.int .u64 (ln : Int))) (DCg_cells (sb := 4) hat3 rfl hX).2.1 (fun x hx => (DCg_cells (sb := 4) (hat3.drew.grown hx.2 (by simpa using hgtg.symm)) rfl hX).2.1)) Try.underlying55 rfl, .inl ⟨rfl, hS.other 6 (by decide)⟩⟩⟩
  · exact ⟨_, [6], rfl, rfl, by kernel_rfl, fun rr listed w' hsz hun hpl hS => ⟨.value (.int .u64 (IntKind.u64.wrap ((ln : Int) * 2 ^ 3))), w', by kernel_rfl, .inl ⟨rfl, hS.other 7 (by decide)⟩⟩⟩
  · exact ⟨_, [2, 7], rfl, rfl, by kernel_rfl, fun rr listed w' hsz hun hpl hS => by
      obtain rfl := hS.before hun
      refine ⟨.enter 37 #[(.slice (some ⟨gt, pd + 1, none⟩) (72 - (pd + 1)) (72 - (pd + 1))), (.int .u64 (IntKind.u64.wrap ((ln : Int) * 2 ^ 3)))], w3.drew, by kernel_rfl, .inr (.inr ⟨_, _, rfl, ?_⟩)⟩
      rw [hsh]
      refine (le8_put gt (pd + 1) (72 - (pd + 1)) (72 - (pd + 1)) ((ln : Int) * 2 ^ 3) 76 _ w3.drew att3 (by omega) (by simp; omega)).mono ?_
      rintro e w'' ⟨rfl, k1, k2⟩
      rw [pad_row (le8B ((ln : Int) * 2 ^ 3)) rfl pd hpd64] at k1
      exact ⟨rfl, OneS.done hsz ⟨k1, k2⟩⟩⟩
  intro fr4 w4 listed hkn hall
  have hfr4 := hkn.fr hall [] (by kernel_rfl)
  show Code.wp _ _ _ _ _
  obtain ⟨att4, g34⟩ := hkn.st.end_ (hall 8 (by decide))
  have hat4 : At w4 g 57 (DCg (cellsM s) X q ln) := hat3.drew.grown g34 (by simpa using hgtg.symm)
  have atr4 : At w4 gr 29 (List.replicate 16 (.int .u8 0)) := atr3.drew.grown g34 (by simpa using hgtr.symm)
  have hplen : (padM ln).length = pd + 9 := by rw [padM_len, hpd]
  have hpe : (128 : UInt8) :: List.replicate pd 0 ++ le8B ((ln : Int) * 2 ^ 3) = padM ln := by rw [hpd]; rfl
  rw [hpe] at att4
  clear hkn hall hfr3
  refine wp_seq (reg_any (b := false) 6 63 [(0, (.pointer (some ⟨g, 0, none⟩))), (2, (.pointer (some ⟨gr, 0, none⟩))), (3, (.pointer (some ⟨gt, 0, none⟩))), (4, (.int .u64 (pd : Int)))] (fun zz => [(.pointer (some ⟨g, 0, none⟩)), (.int .u64 (pd : Int)), (.int .u64 (IntKind.u64.wrap (1 + (pd : Int)))), (.int .u64 (IntKind.u64.wrap (IntKind.u64.wrap (1 + (pd : Int)) + 8))), (.slice (some ⟨gt, 0, none⟩) (pd + 9) 72), (.tuple #[.int .i64 ((pd + 9 : Nat) : Int), .nilIface])].getD zz undef) (OneS 5 w4 (fun x => Dg 57 cellsM md5G ivM x g (T ++ padM ln) ∧ w4.grownBy x (some g))) [0, 1, 2, 3, 4, 5] hm (by kernel_rfl) (by kernel_rfl) (by kernel_rfl) (by kernel_rfl) hfr4 (OneS.start _) ⟨?_, ?_, ?_, ?_, ?_, ?_, trivial⟩ ?_)
  · exact ⟨_, [], rfl, rfl, by kernel_rfl, fun rr listed w' hsz hun hpl hS => ⟨.value (.pointer (some ⟨g, 0, none⟩)), w', by kernel_rfl, .inl ⟨rfl, hS.other 0 (by decide)⟩⟩⟩
  · exact ⟨_, [], rfl, rfl, by kernel_rfl, fun rr listed w' hsz hun hpl hS => ⟨.value (.int .u64 (pd : Int)), w', by kernel_rfl, .inl ⟨rfl, hS.other 1 (by decide)⟩⟩⟩
  · exact ⟨_, [1], rfl, rfl, by kernel_rfl, fun rr listed w' hsz hun hpl hS => ⟨.value (.int .u64 (IntKind.u64.wrap (1 + (pd : Int)))), w', by kernel_rfl, .inl ⟨rfl, hS.other 2 (by decide)⟩⟩⟩
  · exact ⟨_, [2], rfl, rfl, by kernel_rfl, fun rr listed w' hsz hun hpl hS => ⟨.value (.int .u64 (IntKind.u64.wrap (IntKind.u64.wrap (1 + (pd : Int)) + 8))), w', by kernel_rfl, .inl ⟨rfl, hS.other 3 (by decide)⟩⟩⟩
  · exact ⟨_, [3], rfl, rfl, by kernel_rfl, fun rr listed w' hsz hun hpl hS => ⟨.value (.slice (some ⟨gt, 0, none⟩) (pd + 9) 72), w', slice_run rfl (X := (.pointer (some ⟨gt, 0, none⟩))) (L := none) (H := some (.int .u64 (IntKind.u64.wrap (IntKind.u64.wrap (1 + (pd : Int)) + 8)))) (M := none) (by kernel_rfl) rfl (by kernel_rfl) rfl (by rw [hp9]; exact slice72to gt (pd + 9) (by omega) w'), .inl ⟨rfl, hS.other 4 (by decide)⟩⟩⟩
  · exact ⟨_, [0, 4], rfl, rfl, by kernel_rfl, fun rr listed w' hsz hun hpl hS => by
      obtain rfl := hS.before hun
      refine ⟨.enter 14 #[(.pointer (some ⟨g, 0, none⟩)), (.slice (some ⟨gt, 0, none⟩) (pd + 9) 72)], w', by kernel_rfl, .inr (.inr ⟨_, _, rfl, ?_⟩)⟩
      refine (md5_write g T (padM ln) s X q (pd + 9) 72 (some ⟨gt, 0, none⟩) hL w' (hln ▸ hat4) hplen att4.bytPre (.inr ⟨gt, 0, rfl, hgtg⟩) (by omega) (by omega) (by omega)).mono ?_
      rintro e w'' ⟨rfl, k1, k2⟩
      exact ⟨rfl, OneS.done hsz ⟨k1, k2⟩⟩⟩
  intro fr5 w5 listed hkn hall
  have hfr5 := hkn.fr hall [] (by kernel_rfl)
  show Code.wp _ _ _ _ _
  obtain ⟨⟨s', X', q', hL', hat5⟩, g45⟩ := hkn.st.end_ (hall 5 (by decide))
  have hX' : X'.length = 64 := hL'.2.2.1
  have hq' : q' = 0 := by rw [hL'.2.1, List.length_append, hln]; exact padM_full T.length
  have hs' : s' = endM T := by rw [hL'.1, hln]; rfl
  have atr5 : At w5 gr 29 (List.replicate 16 (.int .u8 0)) := atr4.grown g45 (by simpa using hgrg)
  have g05 : w0.grownBy w5 (some g) := grown_trans' (grown_off (grown_drew g03) g34 (by have := g01.size; omega)) g45
  obtain ⟨lf, hlf⟩ : ∃ z, z = (T ++ padM ln).length := ⟨_, rfl⟩
  rw [← hlf, hs', hq'] at hat5
  obtain ⟨SE, hSE⟩ : ∃ z, z = endM T := ⟨_, rfl⟩
  rw [← hSE] at hat5
  clear hkn hall hfr4 hat4 atr4 att4 g34 g45 hL hL' hs' hq' hlf
  refine wp_seq ?_
  refine seq_quiet (Drawn w5) 63 _ [(.pointer (some ⟨g, 0, none⟩)), (.pointer (some ⟨g, 0, none⟩)), (.pointer (some ⟨g, 68, none⟩)), (.int .i64 ((0 : Nat) : Int)), (.bool (((0 : Nat) : Int) != 0))] [none, none, none, some (.sem (Instr.loadAt 3 (.pointer (some ⟨g, 68, none⟩))) (.int .i64 ((0 : Nat) : Int))), none] [0, 2, 3, 4, 32] [(.pointer (some ⟨g, 0, none⟩)), (.pointer (some ⟨gr, 0, none⟩)), (.pointer (some ⟨gt, 0, none⟩)), (.int .u64 (pd : Int)), (.bool (((0 : Nat) : Int) != 0))] hm (by kernel_rfl) (by kernel_rfl) hfr5 (fun r w => by kernel_rfl) (fun r => by kernel_rfl) (Drawn.refl w5) (fun _ => (Drawn.refl w5).drew) ⟨load_item (DCg_cells (sb := 4) hat5 rfl hX').1 Try.underlying3 rfl, trivial⟩ fun fr6 w6 hw6 hfr6 => ?_
  refine wp_cond_false ((hfr6.nth 4 rfl).trans rfl) (wp_skip ?_)
  show Code.wp _ _ _ _ _
  have hat6 := hw6.at_ hat5
  have atr6 := hw6.at_ atr5
  have g06 := hw6.grown g05
  refine wp_seq (reg_var 63 [(0, (.pointer (some ⟨g, 0, none⟩))), (2, (.pointer (some ⟨gr, 0, none⟩)))] 5 rfl rfl 29 rfl (.agg (List.replicate 16 (.int .u8 0)).toArray) (List.replicate 16 (.int .u8 0)) (fun w => by kernel_rfl) rfl (hfr6.sub [0, 1] rfl) (by decide) (by kernel_rfl) fun fr7 w7 hw7 hfr7 => ?_)
  show Code.wp _ _ _ _ _
  obtain ⟨gd, hgd⟩ : ∃ z, z = w6.heap.size := ⟨_, rfl⟩
  have atd0 : At w7 gd 29 (([] : List UInt8).map B8 ++ List.replicate 16 (.int .u8 0)) := hgd ▸ hw7.at_
  rw [← hgd] at hfr7
  have hgdg : gd ≠ g := by have := g06.size; omega
  have hgdr : gd ≠ gr := by have := atr6.lt; omega
  have hgd0 : w0.heap.size ≤ gd := by have := g06.size; omega
  have hatd0 : At w7 g 57 (DCg (cellsM SE) X' 0 lf) := hat6.grown hw7.grown (by simp)
  have atrd0 : At w7 gr 29 (List.replicate 16 (.int .u8 0)) := atr6.grown hw7.grown (by simp)
  have gd0 : w0.grownBy w7 (some g) := grown_trans' g06 (World.grownBy_mono' hw7.grown)
  clear hat5 hat6 atr5 atr6 g05 g06 hw6 hw7 hfr6 hfr5
  refine wp_seq (reg_any (b := true) 6 63 [(5, (.pointer (some ⟨gd, 0, none⟩))), (0, (.pointer (some ⟨g, 0, none⟩))), (2, (.pointer (some ⟨gr, 0, none⟩)))] (fun zz => [(.slice (some ⟨gd, 0, none⟩) 16 16), (.pointer (some ⟨g, 0, none⟩)), (.pointer (some ⟨g, 0, none⟩)), (.pointer (some ⟨g, 0, none⟩)), (.pointer (some ⟨g, 0, none⟩)), (.int .u32 SE.1), (.tuple #[])].getD zz undef) (OneS 6 w7.drew (fun x => At x gd 29 ((([] : List UInt8) ++ le4B SE.1).map B8 ++ List.replicate (16 - 4) (.int .u8 0)) ∧ w7.drew.grownBy x (some gd))) [0, 1, 2, 3, 4, 5, 6] hm (by kernel_rfl) (by kernel_rfl) (by kernel_rfl) (by kernel_rfl) hfr7 (OneS.start _) ⟨?_, ?_, ?_, ?_, ?_, ?_, ?_, trivial⟩ ?_)
  · exact ⟨_, [], rfl, rfl, by kernel_rfl, fun rr listed w' hsz hun hpl hS => ⟨.value (.slice (some ⟨gd, 0, none⟩) 16 16), w', by kernel_rfl, .inl ⟨rfl, hS.other 0 (by decide)⟩⟩⟩
  · exact ⟨_, [], rfl, rfl, by kernel_rfl, fun rr listed w' hsz hun hpl hS => ⟨.value (.pointer (some ⟨g, 0, none⟩)), w', by kernel_rfl, .inl ⟨rfl, hS.other 1 (by decide)⟩⟩⟩
  · exact ⟨_, [1], rfl, rfl, by kernel_rfl, fun rr listed w' hsz hun hpl hS => ⟨.value (.pointer (some ⟨g, 0, none⟩)), w', by kernel_rfl, .inl ⟨rfl, hS.other 2 (by decide)⟩⟩⟩
  · exact ⟨_, [2], rfl, rfl, by kernel_rfl, fun rr listed w' hsz hun hpl hS => ⟨.value (.pointer (some ⟨g, 0, none⟩)), w', by kernel_rfl, .inl ⟨rfl, hS.other 3 (by decide)⟩⟩⟩
  · exact ⟨_, [3], rfl, rfl, by kernel_rfl, fun rr listed w' hsz hun hpl hS => ⟨.value (.pointer (some ⟨g, 0, none⟩)), w', by kernel_rfl, .inl ⟨rfl, hS.other 4 (by decide)⟩⟩⟩
  · exact ⟨_, [4], rfl, rfl, by kernel_rfl, fun rr listed w' hsz hun hpl hS => ⟨.value (.int .u32 SE.1), w', load_run (b := g) (k := 0) rfl (by kernel_rfl) (hS.both (R := fun x => x.cell? ⟨g, 0, none⟩ = some (.int .u32 SE.1)) (hatd0.drew.cell 0 (by rw [DCg_len (sb := 4) rfl hX']; omega)) (fun x hx => (hatd0.drew.grown hx.2 (by simpa using hgdg.symm)).cell 0 (by rw [DCg_len (sb := 4) rfl hX']; omega))) Try.underlying52 rfl, .inl ⟨rfl, hS.other 5 (by decide)⟩⟩⟩
  · exact ⟨_, [0, 5], rfl, rfl, by kernel_rfl, fun rr listed w' hsz hun hpl hS => by
      obtain rfl := hS.before hun
      refine ⟨.enter 38 #[(.slice (some ⟨gd, 0, none⟩) 16 16), (.int .u32 SE.1)], w7.drew, by kernel_rfl, .inr (.inr ⟨_, _, rfl, ?_⟩)⟩
      refine (le4_put gd 0 16 16 SE.1 29 _ w7.drew atd0 (by decide) (by simp)).mono ?_
      rintro e w'' ⟨rfl, k1, k2⟩
      rw [row_add ([] : List UInt8) (le4B SE.1) 16 0 rfl (by decide) rfl] at k1
      exact ⟨rfl, OneS.done hsz ⟨k1, k2⟩⟩⟩
  intro frd1 wd1 listed hkn hall
  have hfrd1 := hkn.fr hall [] (by kernel_rfl)
  show Code.wp _ _ _ _ _
  obtain ⟨atd1, gs1⟩ := hkn.st.end_ (hall 6 (by decide))
  have hatd1 : At wd1 g 57 (DCg (cellsM SE) X' 0 lf) := hatd0.drew.grown gs1 (by simpa using hgdg.symm)
  have atrd1 : At wd1 gr 29 (List.replicate 16 (.int .u8 0)) := atrd0.drew.grown gs1 (by simpa using hgdr.symm)
  have gd1 : w0.grownBy wd1 (some g) := grown_off (grown_drew gd0) gs1 hgd0
  clear hkn hall gs1 gd0 atrd0 hatd0 atd0 hfr7
  refine wp_seq (reg_any (b := true) 6 63 [(5, (.pointer (some ⟨gd, 0, none⟩))), (0, (.pointer (some ⟨g, 0, none⟩))), (2, (.pointer (some ⟨gr, 0, none⟩)))] (fun zz => [(.slice (some ⟨gd, 4, none⟩) 12 12), (.pointer (some ⟨g, 0, none⟩)), (.pointer (some ⟨g, 0, none⟩)), (.pointer (some ⟨g, 0, none⟩)), (.pointer (some ⟨g, 1, none⟩)), (.int .u32 SE.2.1), (.tuple #[])].getD zz undef) (OneS 6 wd1.drew (fun x => At x gd 29 (((([] : List UInt8) ++ le4B SE.1) ++ le4B SE.2.1).map B8 ++ List.replicate (12 - 4) (.int .u8 0)) ∧ wd1.drew.grownBy x (some gd))) [0, 1, 2, 3, 4, 5, 6] hm (by kernel_rfl) (by kernel_rfl) (by kernel_rfl) (by kernel_rfl) hfrd1 (OneS.start _) ⟨?_, ?_, ?_, ?_, ?_, ?_, ?_, trivial⟩ ?_)
  · exact ⟨_, [], rfl, rfl, by kernel_rfl, fun rr listed w' hsz hun hpl hS => ⟨.value (.slice (some ⟨gd, 4, none⟩) 12 12), w', by kernel_rfl, .inl ⟨rfl, hS.other 0 (by decide)⟩⟩⟩
  · exact ⟨_, [], rfl, rfl, by kernel_rfl, fun rr listed w' hsz hun hpl hS => ⟨.value (.pointer (some ⟨g, 0, none⟩)), w', by kernel_rfl, .inl ⟨rfl, hS.other 1 (by decide)⟩⟩⟩
  · exact ⟨_, [1], rfl, rfl, by kernel_rfl, fun rr listed w' hsz hun hpl hS => ⟨.value (.pointer (some ⟨g, 0, none⟩)), w', by kernel_rfl, .inl ⟨rfl, hS.other 2 (by decide)⟩⟩⟩
  · exact ⟨_, [2], rfl, rfl, by kernel_rfl, fun rr listed w' hsz hun hpl hS => ⟨.value (.pointer (some ⟨g, 0, none⟩)), w', by kernel_rfl, .inl ⟨rfl, hS.other 3 (by decide)⟩⟩⟩
  · exact ⟨_, [3], rfl, rfl, by kernel_rfl, fun rr listed w' hsz hun hpl hS => ⟨.value (.pointer (some ⟨g, 1, none⟩)), w', by kernel_rfl, .inl ⟨rfl, hS.other 4 (by decide)⟩⟩⟩
  · exact ⟨_, [4], rfl, rfl, by kernel_rfl, fun rr listed w' hsz hun hpl hS => ⟨.value (.int .u32 SE.2.1), w', load_run (b := g) (k := 1) rfl (by kernel_rfl) (hS.both (R := fun x => x.cell? ⟨g, 1, none⟩ = some (.int .u32 SE.2.1)) (hatd1.drew.cell 1 (by rw [DCg_len (sb := 4) rfl hX']; omega)) (fun x hx => (hatd1.drew.grown hx.2 (by simpa using hgdg.symm)).cell 1 (by rw [DCg_len (sb := 4) rfl hX']; omega))) Try.underlying52 rfl, .inl ⟨rfl, hS.other 5 (by decide)⟩⟩⟩
  · exact ⟨_, [0, 5], rfl, rfl, by kernel_rfl, fun rr listed w' hsz hun hpl hS => by
      obtain rfl := hS.before hun
      refine ⟨.enter 38 #[(.slice (some ⟨gd, 4, none⟩) 12 12), (.int .u32 SE.2.1)], wd1.drew, by kernel_rfl, .inr (.inr ⟨_, _, rfl, ?_⟩)⟩
      refine (le4_put gd 4 12 12 SE.2.1 29 _ wd1.drew atd1 (by decide) (by simp [le4B])).mono ?_
      rintro e w'' ⟨rfl, k1, k2⟩
      rw [row_add (([] : List UInt8) ++ le4B SE.1) (le4B SE.2.1) 12 4 rfl (by decide) rfl] at k1
      exact ⟨rfl, OneS.done hsz ⟨k1, k2⟩⟩⟩
  intro frd2 wd2 listed hkn hall
  have hfrd2 := hkn.fr hall [] (by kernel_rfl)
  show Code.wp _ _ _ _ _
  obtain ⟨atd2, gs2⟩ := hkn.st.end_ (hall 6 (by decide))
  have hatd2 : At wd2 g 57 (DCg (cellsM SE) X' 0 lf) := hatd1.drew.grown gs2 (by simpa using hgdg.symm)
  have atrd2 : At wd2 gr 29 (List.replicate 16 (.int .u8 0)) := atrd1.drew.grown gs2 (by simpa using hgdr.symm)
  have gd2 : w0.grownBy wd2 (some g) := grown_off (grown_drew gd1) gs2 hgd0
  clear hkn hall gs2 gd1 atrd1 hatd1 atd1 hfrd1
  refine wp_seq (reg_any (b := true) 6 63 [(5, (.pointer (some ⟨gd, 0, none⟩))), (0, (.pointer (some ⟨g, 0, none⟩))), (2, (.pointer (some ⟨gr, 0, none⟩)))] (fun zz => [(.slice (some ⟨gd, 8, none⟩) 8 8), (.pointer (some ⟨g, 0, none⟩)), (.pointer (some ⟨g, 0, none⟩)), (.pointer (some ⟨g, 0, none⟩)), (.pointer (some ⟨g, 2, none⟩)), (.int .u32 SE.2.2.1), (.tuple #[])].getD zz undef) (OneS 6 wd2.drew (fun x => At x gd 29 ((((([] : List UInt8) ++ le4B SE.1) ++ le4B SE.2.1) ++ le4B SE.2.2.1).map B8 ++ List.replicate (8 - 4) (.int .u8 0)) ∧ wd2.drew.grownBy x (some gd))) [0, 1, 2, 3, 4, 5, 6] hm (by kernel_rfl) (by kernel_rfl) (by kernel_rfl) (by kernel_rfl) hfrd2 (OneS.start _) ⟨?_, ?_, ?_, ?_, ?_, ?_, ?_, trivial⟩ ?_)
  · exact ⟨_, [], rfl, rfl, by kernel_rfl, fun rr listed w' hsz hun hpl hS => ⟨.value (.slice (some ⟨gd, 8, none⟩) 8 8), w', by kernel_rfl, .inl ⟨rfl, hS.other 0 (by decide)⟩⟩⟩
  · exact ⟨_, [], rfl, rfl, by kernel_rfl, fun rr listed w' hsz hun hpl hS => ⟨.value (.pointer (some ⟨g, 0, none⟩)), w', by kernel_rfl, .inl ⟨rfl, hS.other 1 (by decide)⟩⟩⟩
  · exact ⟨_, [1], rfl, rfl, by kernel_rfl, fun rr listed w' hsz hun hpl hS => ⟨.value (.pointer (some ⟨g, 0, none⟩)), w', by kernel_rfl, .inl ⟨rfl, hS.other 2 (by decide)⟩⟩⟩
  · exact ⟨_, [2], rfl, rfl, by kernel_rfl, fun rr listed w' hsz hun hpl hS => ⟨.value (.pointer (some ⟨g, 0, none⟩)), w', by kernel_rfl, .inl ⟨rfl, hS.other 3 (by decide)⟩⟩⟩
  · exact ⟨_, [3], rfl, rfl, by kernel_rfl, fun rr listed w' hsz hun hpl hS => ⟨.value (.pointer (some ⟨g, 2, none⟩)), w', by kernel_rfl, .inl ⟨rfl, hS.other 4 (by decide)⟩⟩⟩
  · exact ⟨_, [4], rfl, rfl, by kernel_rfl, fun rr listed w' hsz hun hpl hS => ⟨.value (.int .u32 SE.2.2.1), w', load_run (b := g) (k := 2) rfl (by kernel_rfl) (hS.both (R := fun x => x.cell? ⟨g, 2, none⟩ = some (.int .u32 SE.2.2.1)) (hatd2.drew.cell 2 (by rw [DCg_len (sb := 4) rfl hX']; omega)) (fun x hx => (hatd2.drew.grown hx.2 (by simpa using hgdg.symm)).cell 2 (by rw [DCg_len (sb := 4) rfl hX']; omega))) Try.underlying52 rfl, .inl ⟨rfl, hS.other 5 (by decide)⟩⟩⟩
  · exact ⟨_, [0, 5], rfl, rfl, by kernel_rfl, fun rr listed w' hsz hun hpl hS => by
      obtain rfl := hS.before hun
      refine ⟨.enter 38 #[(.slice (some ⟨gd, 8, none⟩) 8 8), (.int .u32 SE.2.2.1)], wd2.drew, by kernel_rfl, .inr (.inr ⟨_, _, rfl, ?_⟩)⟩
      refine (le4_put gd 8 8 8 SE.2.2.1 29 _ wd2.drew atd2 (by decide) (by simp [le4B])).mono ?_
      rintro e w'' ⟨rfl, k1, k2⟩
      rw [row_add ((([] : List UInt8) ++ le4B SE.1) ++ le4B SE.2.1) (le4B SE.2.2.1) 8 8 rfl (by decide) rfl] at k1
      exact ⟨rfl, OneS.done hsz ⟨k1, k2⟩⟩⟩
  intro frd3 wd3 listed hkn hall
  have hfrd3 := hkn.fr hall [] (by kernel_rfl)
  show Code.wp _ _ _ _ _
  obtain ⟨atd3, gs3⟩ := hkn.st.end_ (hall 6 (by decide))
  have hatd3 : At wd3 g 57 (DCg (cellsM SE) X' 0 lf) := hatd2.drew.grown gs3 (by simpa using hgdg.symm)
  have atrd3 : At wd3 gr 29 (List.replicate 16 (.int .u8 0)) := atrd2.drew.grown gs3 (by simpa using hgdr.symm)
  have gd3 : w0.grownBy wd3 (some g) := grown_off (grown_drew gd2) gs3 hgd0
  clear hkn hall gs3 gd2 atrd2 hatd2 atd2 hfrd2
  refine wp_seq (reg_any (b := true) 6 63 [(5, (.pointer (some ⟨gd, 0, none⟩))), (0, (.pointer (some ⟨g, 0, none⟩))), (2, (.pointer (some ⟨gr, 0, none⟩)))] (fun zz => [(.slice (some ⟨gd, 12, none⟩) 4 4), (.pointer (some ⟨g, 0, none⟩)), (.pointer (some ⟨g, 0, none⟩)), (.pointer (some ⟨g, 0, none⟩)), (.pointer (some ⟨g, 3, none⟩)), (.int .u32 SE.2.2.2), (.tuple #[])].getD zz undef) (OneS 6 wd3.drew (fun x => At x gd 29 (((((([] : List UInt8) ++ le4B SE.1) ++ le4B SE.2.1) ++ le4B SE.2.2.1) ++ le4B SE.2.2.2).map B8 ++ List.replicate (4 - 4) (.int .u8 0)) ∧ wd3.drew.grownBy x (some gd))) [0, 1, 2, 3, 4, 5, 6] hm (by kernel_rfl) (by kernel_rfl) (by kernel_rfl) (by kernel_rfl) hfrd3 (OneS.start _) ⟨?_, ?_, ?_, ?_, ?_, ?_, ?_, trivial⟩ ?_)
  · exact ⟨_, [], rfl, rfl, by kernel_rfl, fun rr listed w' hsz hun hpl hS => ⟨.value (.slice (some ⟨gd, 12, none⟩) 4 4), w', by kernel_rfl, .inl ⟨rfl, hS.other 0 (by decide)⟩⟩⟩
  · exact ⟨_, [], rfl, rfl, by kernel_rfl, fun rr listed w' hsz hun hpl hS => ⟨.value (.pointer (some ⟨g, 0, none⟩)), w', by kernel_rfl, .inl ⟨rfl, hS.other 1 (by decide)⟩⟩⟩
  · exact ⟨_, [1], rfl, rfl, by kernel_rfl, fun rr listed w' hsz hun hpl hS => ⟨.value (.pointer (some ⟨g, 0, none⟩)), w', by kernel_rfl, .inl ⟨rfl, hS.other 2 (by decide)⟩⟩⟩
  · exact ⟨_, [2], rfl, rfl, by kernel_rfl, fun rr listed w' hsz hun hpl hS => ⟨.value (.pointer (some ⟨g, 0, none⟩)), w', by kernel_rfl, .inl ⟨rfl, hS.other 3 (by decide)⟩⟩⟩
  · exact ⟨_, [3], rfl, rfl, by kernel_rfl, fun rr listed w' hsz hun hpl hS => ⟨.value (.pointer (some ⟨g, 3, none⟩)), w', by kernel_rfl, .inl ⟨rfl, hS.other 4 (by decide)⟩⟩⟩
  · exact ⟨_, [4], rfl, rfl, by kernel_rfl, fun rr listed w' hsz hun hpl hS => ⟨.value (.int .u32 SE.2.2.2), w', load_run (b := g) (k := 3) rfl (by kernel_rfl) (hS.both (R := fun x => x.cell? ⟨g, 3, none⟩ = some (.int .u32 SE.2.2.2)) (hatd3.drew.cell 3 (by rw [DCg_len (sb := 4) rfl hX']; omega)) (fun x hx => (hatd3.drew.grown hx.2 (by simpa using hgdg.symm)).cell 3 (by rw [DCg_len (sb := 4) rfl hX']; omega))) Try.underlying52 rfl, .inl ⟨rfl, hS.other 5 (by decide)⟩⟩⟩
  · exact ⟨_, [0, 5], rfl, rfl, by kernel_rfl, fun rr listed w' hsz hun hpl hS => by
      obtain rfl := hS.before hun
      refine ⟨.enter 38 #[(.slice (some ⟨gd, 12, none⟩) 4 4), (.int .u32 SE.2.2.2)], wd3.drew, by kernel_rfl, .inr (.inr ⟨_, _, rfl, ?_⟩)⟩
      refine (le4_put gd 12 4 4 SE.2.2.2 29 _ wd3.drew atd3 (by decide) (by simp [le4B])).mono ?_
      rintro e w'' ⟨rfl, k1, k2⟩
      rw [row_add (((([] : List UInt8) ++ le4B SE.1) ++ le4B SE.2.1) ++ le4B SE.2.2.1) (le4B SE.2.2.2) 4 12 rfl (by decide) rfl] at k1
      exact ⟨rfl, OneS.done hsz ⟨k1, k2⟩⟩⟩
  intro frd4 wd4 listed hkn hall
  have hfrd4 := hkn.fr hall [] (by kernel_rfl)
  show Code.wp _ _ _ _ _
  obtain ⟨atd4, gs4⟩ := hkn.st.end_ (hall 6 (by decide))
  have hatd4 : At wd4 g 57 (DCg (cellsM SE) X' 0 lf) := hatd3.drew.grown gs4 (by simpa using hgdg.symm)
  have atrd4 : At wd4 gr 29 (List.replicate 16 (.int .u8 0)) := atrd3.drew.grown gs4 (by simpa using hgdr.symm)
  have gd4 : w0.grownBy wd4 (some g) := grown_off (grown_drew gd3) gs4 hgd0
  clear hkn hall gs4 gd3 atrd3 hatd3 atd3 hfrd3
  have hfin : ((((([] : List UInt8) ++ le4B SE.1) ++ le4B SE.2.1) ++ le4B SE.2.2.1) ++ le4B SE.2.2.2).map B8 ++ List.replicate (4 - 4) (.int .u8 0) = (sumM T).map B8 := by
    rw [hSE]
    unfold sumM
    simp
  rw [hfin] at atd4
  have hlen : ((sumM T).map B8).length = 16 := by simp [sumM, le4B]
  have hsz : (Try.prog.info? 29).map (·.size) = some ((sumM T).map B8).length := by rw [hlen]; kernel_rfl
  refine wp_seq (reg_move 63 [(5, (.pointer (some ⟨gd, 0, none⟩))), (0, (.pointer (some ⟨g, 0, none⟩))), (2, (.pointer (some ⟨gr, 0, none⟩)))] 29 5 2 62 gd gr _ _ _ rfl rfl rfl rfl rfl rfl hfrd4 (by decide) (by kernel_rfl) (by simp) (by simp) atd4 atrd4 Try.underlying29 rfl hsz (by rw [List.length_replicate, hlen]) (B8_one _) fun frz wz hwz hfrz => ?_)
  refine wp_ret ?_
  refine bodyPost_ret (results_cell_row rfl _ _ gr 29 ((sumM T).map B8).toArray (0, 0) _ (hfrz.get (j := 2) (by simp)) hwz.at_ Try.underlying29 rfl (by simpa using hsz)) hfrz.2.1 ?_
  exact ⟨rfl, grown_off gd4 hwz.grown (by omega)⟩
end Go.Proofs.Ytahkgkonpjimpaa
