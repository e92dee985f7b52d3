/-
  md5's Write: the digest stands for the stream that was written.
-/
import Derived.Test.YtahkgkonpjimpaaWrAid
namespace Go.Proofs.Ytahkgkonpjimpaa
open Go.RowKit
set_option linter.unusedVariables false
set_option maxRecDepth 1000000 in
set_option maxHeartbeats 40000000 in
theorem md5_write (g : Nat) (T p : List UInt8) (s : S4) (X : List UInt8) (q n c : Nat) (A : Option Addr) (hL : Left md5G ivM T s X q) (w0 : World) (hg : At w0 g 57 (DCg (cellsM s) X q T.length)) (hp : p.length = n) (hb : Byt w0 A p) (hA : Off g A) (hnc : n ≤ c) (hT : T.length ≤ 1000) (hn : n ≤ 399) :
    Calls Try.prog 14 #[(.pointer (some ⟨g, 0, none⟩)), .slice A n c] w0 (WrOk 57 cellsM md5G ivM g (T ++ p) n w0) := by
  have hm : Try.prog.follows .mixedOrders = true := by kernel_rfl
  have hX : X.length = 64 := hL.2.2.1
  have hq : q < 64 := by have := hL.2.1; omega
  have hTn : (T ++ p).length = T.length + n := by rw [List.length_append, hp]
  go_enter Try.func14, Try.ntmps14
  refine fr_start 106 [(0, (.pointer (some ⟨g, 0, none⟩))), (1, (.slice A n c))] ⟨by kernel_rfl, rfl, List.forall_mem_cons.2 ⟨by kernel_rfl, List.forall_mem_cons.2 ⟨by kernel_rfl, fun _ h => by cases h⟩⟩⟩ fun fr0 hfr0 => ?_
  refine seq_quiet (Drawn w0) 106 _ [(.int .i64 0), .nilIface] [none, none] [0, 1, 4, 5] [(.pointer (some ⟨g, 0, none⟩)), (.slice A n c), (.int .i64 0), .nilIface] hm (by kernel_rfl) (by kernel_rfl) hfr0 (fun r w => by kernel_rfl) (fun r => by kernel_rfl) (Drawn.refl w0) (fun _ => (Drawn.refl w0).drew) trivial fun fr1 w1 hw1 hfr1 => ?_
  have hat1 : At w1 g 57 (DCg (cellsM s) X q T.length) := hw1.at_ hg
  have hgr1 : w0.grownBy w1 (some g) := hw1.grown (grown_self _ _)
  refine seq_quiet (Drawn w1) 106 _ [(.slice A n c), (.int .i64 (n : Int)), (.int .i64 (n : Int))] [none, none, none] [0, 1, 4, 5] [(.pointer (some ⟨g, 0, none⟩)), (.slice A n c), (.int .i64 (n : Int)), .nilIface] hm (by kernel_rfl) (by kernel_rfl) hfr1 (fun r w => by kernel_rfl) (fun r => by kernel_rfl) (Drawn.refl w1) (fun _ => (Drawn.refl w1).drew) trivial fun fr2 w2 hw2 hfr2 => ?_
  have hat : At w2 g 57 (DCg (cellsM s) X q T.length) := hw2.at_ hat1
  have hgr2 : w0.grownBy w2 (some g) := hw2.grown hgr1
  have hln : (IntKind.u64.wrap ((T.length : Int) + (IntKind.u64.wrap (n : Int)))) = ((T.length + n : Nat) : Int) := by rw [u64_small (n : Int) (by omega), u64_small ((T.length : Int) + (n : Int)) (by omega)]; omega
  refine wp_seq (reg_store (Drawn w2) _ rfl 106 _ [(.pointer (some ⟨g, 0, none⟩)), (.pointer (some ⟨g, 0, none⟩)), (.pointer (some ⟨g, 69, none⟩)), (.int .u64 (T.length : Int)), (.int .i64 (n : Int)), (.int .u64 (IntKind.u64.wrap (n : Int))), (.int .u64 (IntKind.u64.wrap ((T.length : Int) + (IntKind.u64.wrap (n : Int))))), (.pointer (some ⟨g, 0, none⟩)), (.pointer (some ⟨g, 69, none⟩))] [none, none, none, some (.sem (Instr.loadAt 55 (.pointer (some ⟨g, 69, none⟩))) (.int .u64 (T.length : Int))), none, none, none, none, none] [0, 1, 4, 5] [(.pointer (some ⟨g, 0, none⟩)), (.slice A n c), (.int .i64 (n : Int)), .nilIface] (by kernel_rfl) hfr2 (fun r w => by kernel_rfl) (fun r => by kernel_rfl) (Drawn.refl _) ⟨load_item ((DCg_cells hat rfl hX).2.1) Try.underlying55 rfl, trivial⟩ rfl rfl (x := .tmp 18) (y := .tmp 16) rfl (b := g) (k := 69) (kd := .u64) (n := ((T.length + n : Nat) : Int)) (fun r => by kernel_rfl) (fun r => by rw [← hln]; kernel_rfl) Try.size64 (fun w' hw' => At.there1 (hw'.at_ hat) 69 (by rw [DCg_len (sb := 4) rfl hX]; omega)) fun fr3 w3' hw3 hfr3 => ?_)
  show Code.wp _ _ _ _ _
  obtain ⟨w3, hw3e⟩ : ∃ z, z = w3'.setCell ⟨g, 69, none⟩ (.int .u64 ((T.length + n : Nat) : Int)) := ⟨_, rfl⟩
  have hat3 : At w3 g 57 (DCg (cellsM s) X q (T.length + n)) := by
    have h := At.set_ (hw3.at_ hat) 69 (.int .u64 ((T.length + n : Nat) : Int))
    rw [DCg_set_ln (sb := 4) rfl hX, ← hw3e] at h
    exact h
  have hgr3 : w0.grownBy w3 (some g) := by rw [hw3e]; exact grown_trans' (hw3.grown hgr2) (grown_set _ _ _ _)
  rw [← hw3e]
  clear hw3e hw3 hw2 hw1 hfr0 hfr1 hfr2 hat hat1 hgr1 hgr2
  -- the first if
  refine wp_seq (wp_mono (Q := fun e a w => e = .normal ∧ Mid 106 57 cellsM md5G ivM g (T ++ p) n w0 399 w a) ?_ ?_)
  · skip
    refine seq_quiet (Drawn w3) 106 _ [(.pointer (some ⟨g, 0, none⟩)), (.pointer (some ⟨g, 0, none⟩)), (.pointer (some ⟨g, 68, none⟩)), (.int .i64 (q : Int)), (.bool (decide (0 < (q : Int))))] [none, none, none, some (.sem (Instr.loadAt 3 (.pointer (some ⟨g, 68, none⟩))) (.int .i64 (q : Int))), none] [0, 1, 4, 5, 23] [(.pointer (some ⟨g, 0, none⟩)), (.slice A n c), (.int .i64 (n : Int)), .nilIface, (.bool (decide (0 < (q : Int))))] hm (by kernel_rfl) (by kernel_rfl) hfr3 (fun r w => by kernel_rfl) (fun r => by kernel_rfl) (Drawn.refl w3) (fun _ => (Drawn.refl w3).drew) ⟨load_item ((DCg_cells hat3 rfl hX).1) Try.underlying3 rfl, trivial⟩ fun fr4 w4 hw4 hfr4 => ?_
    have hat4 := hw4.at_ hat3
    have hgr4 := hw4.grown hgr3
    by_cases hq0 : 0 < q
    · refine wp_cond_true ((hfr4.nth 4 rfl).trans (by rw [decide_eq_true (show (0 : Int) < (q : Int) by omega)])) ?_
      obtain ⟨r, hr⟩ : ∃ r, r = min n (64 - q) := ⟨_, rfl⟩
      have hXr : (splice X q (p.take r)).length = 64 := by rw [splice_len _ _ _ (by simp; omega)]; exact hX
      refine wp_seq ?_
      refine reg_any (b := true) 6 106 [(0, (.pointer (some ⟨g, 0, none⟩))), (1, (.slice A n c)), (4, (.int .i64 (n : Int))), (5, .nilIface)] (fun zz => [(.pointer (some ⟨g, 0, none⟩)), (.pointer (some ⟨g, 0, none⟩)), (.pointer (some ⟨g, 4, none⟩)), (.pointer (some ⟨g, 0, none⟩)), (.pointer (some ⟨g, 0, none⟩)), (.pointer (some ⟨g, 68, none⟩)), (.int .i64 (q : Int)), (.slice (some ⟨g, 4 + q, none⟩) (64 - q) (64 - q)), (.slice A n c), (.int .i64 (r : Int)), (.int .i64 (r : Int))].getD zz undef) (GS w0 g 57 9 99 (fun b _ => DCg (cellsM s) (if b then splice X q (p.take r) else X) q (T.length + n))) [0, 1, 2, 3, 4, 5, 6, 7, 8, 9, 10] hm (by kernel_rfl) (by kernel_rfl) (by kernel_rfl) (by kernel_rfl) (hfr4.sub [0, 1, 2, 3] rfl) ⟨by rw [getD_replicate_false]; exact hat4, grown_drew hgr4⟩ ⟨?_, ?_, ?_, ?_, ?_, ?_, ?_, ?_, ?_, ?_, ?_, trivial⟩ ?_
      · exact ⟨_, [], rfl, rfl, by kernel_rfl, fun rr listed w' hsz hun hpl hS => ⟨.value (.pointer (some ⟨g, 0, none⟩)), w', by kernel_rfl, .inl ⟨rfl, hS.other 0 (by decide) (by decide)⟩⟩⟩
      · exact ⟨_, [0], rfl, rfl, by kernel_rfl, fun rr listed w' hsz hun hpl hS => ⟨.value (.pointer (some ⟨g, 0, none⟩)), w', by kernel_rfl, .inl ⟨rfl, hS.other 1 (by decide) (by decide)⟩⟩⟩
      · exact ⟨_, [1], rfl, rfl, by kernel_rfl, fun rr listed w' hsz hun hpl hS => ⟨.value (.pointer (some ⟨g, 4, none⟩)), w', by kernel_rfl, .inl ⟨rfl, hS.other 2 (by decide) (by decide)⟩⟩⟩
      · exact ⟨_, [], rfl, rfl, by kernel_rfl, fun rr listed w' hsz hun hpl hS => ⟨.value (.pointer (some ⟨g, 0, none⟩)), w', by kernel_rfl, .inl ⟨rfl, hS.other 3 (by decide) (by decide)⟩⟩⟩
      · exact ⟨_, [3], rfl, rfl, by kernel_rfl, fun rr listed w' hsz hun hpl hS => ⟨.value (.pointer (some ⟨g, 0, none⟩)), w', by kernel_rfl, .inl ⟨rfl, hS.other 4 (by decide) (by decide)⟩⟩⟩
      · exact ⟨_, [4], rfl, rfl, by kernel_rfl, fun rr listed w' hsz hun hpl hS => ⟨.value (.pointer (some ⟨g, 68, none⟩)), w', by kernel_rfl, .inl ⟨rfl, hS.other 5 (by decide) (by decide)⟩⟩⟩
      · exact ⟨_, [5], rfl, rfl, by kernel_rfl, fun rr listed w' hsz hun hpl hS => ⟨.value (.int .i64 (q : Int)), w', load_run (b := g) (k := 68) rfl (by kernel_rfl) (DCg_cells (sb := 4) hS.1 rfl (if_len hXr hX)).1 Try.underlying3 rfl, .inl ⟨rfl, hS.other 6 (by decide) (by decide)⟩⟩⟩
      · exact ⟨_, [2, 6], rfl, rfl, by kernel_rfl, fun rr listed w' hsz hun hpl hS => ⟨.value (.slice (some ⟨g, 4 + q, none⟩) (64 - q) (64 - q)), w', slice_run rfl (X := (.pointer (some ⟨g, 4, none⟩))) (L := some (.int .i64 (q : Int))) (H := none) (M := none) (by kernel_rfl) (by kernel_rfl) rfl rfl (sliceX4 g q hq w'), .inl ⟨rfl, hS.other 7 (by decide) (by decide)⟩⟩⟩
      · exact ⟨_, [], rfl, rfl, by kernel_rfl, fun rr listed w' hsz hun hpl hS => ⟨.value (.slice A n c), w', by kernel_rfl, .inl ⟨rfl, hS.other 8 (by decide) (by decide)⟩⟩⟩
      · exact ⟨_, [7, 8], rfl, rfl, by kernel_rfl, fun rr listed w' hsz hun hpl hS => by
        have h1 := hS.1
        simp only [hun, Bool.false_eq_true, if_false] at h1
        refine copy_step (P := Try.prog) (d := .tmp 31) (s := .tmp 32) rfl Try.underlying22 Try.size8 (g := g) (off := 4 + q) (dLen := 64 - q) (dCap := 64 - q) (n := n) (c := c) (A := A) (by kernel_rfl) (by kernel_rfl) (hb.grown hS.2 hA) hp h1 r hr (by rw [DCg_len (sb := 4) rfl hX]; omega) rfl fun w'' k2 => ?_
        refine hS.one hsz hun ?_ (grown_trans' hS.2 k2.grown)
        intro b
        have h2 := k2.at_
        rw [DCg_splice (sb := 4) rfl hX q (p.take r) (by simp; omega)] at h2
        exact h2⟩
      · exact ⟨_, [9], rfl, rfl, by kernel_rfl, fun rr listed w' hsz hun hpl hS => ⟨.value (.int .i64 (r : Int)), w', by kernel_rfl, .inl ⟨rfl, hS.other 10 (by decide) (by decide)⟩⟩⟩
      intro fr5 w5 listed hkn hall
      have hfr5 := hkn.fr hall [10] (by kernel_rfl)
      have hat5 := hkn.st.1
      have hgr5 := hkn.st.2
      simp only [hall 9 (by decide), if_true] at hat5
      have hX5 := hXr
      show Code.wp _ _ _ _ _
      have hnx : (IntKind.i64.wrap ((q : Int) + (r : Int))) = ((q + r : Nat) : Int) := by rw [Go.IntWalk.i64_in ((q : Int) + (r : Int)) (by omega)]; omega
      refine wp_seq (reg_store (Drawn w5) _ rfl 106 _ [(.pointer (some ⟨g, 0, none⟩)), (.pointer (some ⟨g, 0, none⟩)), (.pointer (some ⟨g, 68, none⟩)), (.int .i64 (q : Int)), (.int .i64 (r : Int)), (.int .i64 (IntKind.i64.wrap ((q : Int) + (r : Int)))), (.pointer (some ⟨g, 0, none⟩)), (.pointer (some ⟨g, 68, none⟩))] [none, none, none, some (.sem (Instr.loadAt 3 (.pointer (some ⟨g, 68, none⟩))) (.int .i64 (q : Int))), none, none, none, none] [0, 1, 4, 5, 6] [(.pointer (some ⟨g, 0, none⟩)), (.slice A n c), (.int .i64 (n : Int)), .nilIface, (.int .i64 (r : Int))] (by kernel_rfl) hfr5 (fun r w => by kernel_rfl) (fun r => by kernel_rfl) (Drawn.refl _) ⟨load_item ((DCg_cells hat5 rfl hX5).1) Try.underlying3 rfl, trivial⟩ rfl rfl (x := .tmp 41) (y := .tmp 39) rfl (b := g) (k := 68) (kd := .i64) (n := ((q + r : Nat) : Int)) (fun r => by kernel_rfl) (fun r => by rw [← hnx]; kernel_rfl) Try.sizeInt (fun w' hw' => At.there1 (hw'.at_ hat5) 68 (by rw [DCg_len (sb := 4) rfl hX5]; omega)) fun fr6 w6' hw6 hfr6 => ?_)
      show Code.wp _ _ _ _ _
      obtain ⟨w6, hw6e⟩ : ∃ z, z = w6'.setCell ⟨g, 68, none⟩ (.int .i64 ((q + r : Nat) : Int)) := ⟨_, rfl⟩
      have hat6 : At w6 g 57 (DCg (cellsM s) (splice X q (p.take r)) (q + r) (T.length + n)) := by
        have h := At.set_ (hw6.at_ hat5) 68 (.int .i64 ((q + r : Nat) : Int))
        rw [DCg_set_nx (sb := 4) rfl hX5, ← hw6e] at h
        exact h
      have hgr6 : w0.grownBy w6 (some g) := by rw [hw6e]; exact grown_trans' (hw6.grown hgr5) (grown_set _ _ _ _)
      rw [← hw6e]
      obtain ⟨X5, hX5e⟩ : ∃ z, z = splice X q (p.take r) := ⟨_, rfl⟩
      rw [← hX5e] at hat6 hX5
      clear hw6e hw6 hat5 hgr5 hkn hall hfr5
      refine wp_seq (wp_mono (Q := fun e a w => e = .normal ∧ ∃ (s1 : S4) (X1 : List UInt8) (q1 : Nat), Left md5G ivM (T ++ p.take r) s1 X1 q1 ∧ At w g 57 (DCg (cellsM s1) X1 q1 (T.length + n)) ∧ w0.grownBy w (some g) ∧ (q1 = 0 ∨ p.drop r = []) ∧ Fr 106 [(0, (.pointer (some ⟨g, 0, none⟩))), (1, (.slice A n c)), (4, (.int .i64 (n : Int))), (5, .nilIface), (6, (.int .i64 (r : Int)))] a) ?_ ?_)
      · skip
        refine seq_quiet (Drawn w6) 106 _ [(.pointer (some ⟨g, 0, none⟩)), (.pointer (some ⟨g, 0, none⟩)), (.pointer (some ⟨g, 68, none⟩)), (.int .i64 ((q + r : Nat) : Int)), (.bool (((q + r : Nat) : Int) == 64))] [none, none, none, some (.sem (Instr.loadAt 3 (.pointer (some ⟨g, 68, none⟩))) (.int .i64 ((q + r : Nat) : Int))), none] [0, 1, 4, 5, 6, 46] [(.pointer (some ⟨g, 0, none⟩)), (.slice A n c), (.int .i64 (n : Int)), .nilIface, (.int .i64 (r : Int)), (.bool (((q + r : Nat) : Int) == 64))] hm (by kernel_rfl) (by kernel_rfl) hfr6 (fun r w => by kernel_rfl) (fun r => by kernel_rfl) (Drawn.refl w6) (fun _ => (Drawn.refl w6).drew) ⟨load_item ((DCg_cells hat6 rfl hX5).1) Try.underlying3 rfl, trivial⟩ fun fr7 w7 hw7 hfr7 => ?_
        have hat7 := hw7.at_ hat6
        have hgr7 := hw7.grown hgr6
        by_cases hf : q + r = 64
        · refine wp_cond_true ((hfr7.nth 5 rfl).trans (by rw [hf]; rfl)) ?_
          refine wp_seq (wp_cond_false rfl ?_)
          refine reg_any (b := false) 7 106 [(0, (.pointer (some ⟨g, 0, none⟩))), (1, (.slice A n c)), (4, (.int .i64 (n : Int))), (5, .nilIface), (6, (.int .i64 (r : Int)))] (fun zz => [(.pointer (some ⟨g, 0, none⟩)), (.pointer (some ⟨g, 0, none⟩)), (.pointer (some ⟨g, 0, none⟩)), (.pointer (some ⟨g, 4, none⟩)), (.slice (some ⟨g, 4, none⟩) 64 64), (.tuple #[])].getD zz undef) (GS w0 g 57 5 99 (fun b _ => DCg (cellsM (if b then BsFrom md5G X5 0 s 1 else s)) X5 (q + r) (T.length + n))) [0, 1, 2, 3, 4, 5] hm (by kernel_rfl) (by kernel_rfl) (by kernel_rfl) (by kernel_rfl) (hfr7.sub [0, 1, 2, 3, 4] rfl) ⟨by rw [getD_replicate_false]; exact hat7, hgr7⟩ ⟨?_, ?_, ?_, ?_, ?_, ?_, trivial⟩ ?_
          · exact ⟨_, [], rfl, rfl, by kernel_rfl, fun rr listed w' hsz hun hpl hS => ⟨.value (.pointer (some ⟨g, 0, none⟩)), w', by kernel_rfl, .inl ⟨rfl, hS.other 0 (by decide) (by decide)⟩⟩⟩
          · exact ⟨_, [], rfl, rfl, by kernel_rfl, fun rr listed w' hsz hun hpl hS => ⟨.value (.pointer (some ⟨g, 0, none⟩)), w', by kernel_rfl, .inl ⟨rfl, hS.other 1 (by decide) (by decide)⟩⟩⟩
          · exact ⟨_, [1], rfl, rfl, by kernel_rfl, fun rr listed w' hsz hun hpl hS => ⟨.value (.pointer (some ⟨g, 0, none⟩)), w', by kernel_rfl, .inl ⟨rfl, hS.other 2 (by decide) (by decide)⟩⟩⟩
          · exact ⟨_, [2], rfl, rfl, by kernel_rfl, fun rr listed w' hsz hun hpl hS => ⟨.value (.pointer (some ⟨g, 4, none⟩)), w', by kernel_rfl, .inl ⟨rfl, hS.other 3 (by decide) (by decide)⟩⟩⟩
          · exact ⟨_, [3], rfl, rfl, by kernel_rfl, fun rr listed w' hsz hun hpl hS => ⟨.value (.slice (some ⟨g, 4, none⟩) 64 64), w', by kernel_rfl, .inl ⟨rfl, hS.other 4 (by decide) (by decide)⟩⟩⟩
          · exact ⟨_, [0, 4], rfl, rfl, by kernel_rfl, fun rr listed w' hsz hun hpl hS => by
          have h1 := hS.1
          simp only [hun, Bool.false_eq_true, if_false] at h1
          refine ⟨.enter 27 #[(.pointer (some ⟨g, 0, none⟩)), (.slice (some ⟨g, 4, none⟩) 64 64)], w', by kernel_rfl, .inr (.inr ⟨_, _, rfl, ?_⟩)⟩
          refine (md5_blockAt g s _ g 4 1 64 64 rfl (by omega) (by omega) X5 hX5 w' h1 h1.lt (DCg_cells (sb := 4) h1 rfl hX5).2.2).mono ?_
          rintro e w'' ⟨rfl, k1, k2⟩
          exact ⟨rfl, hS.one hsz hun (fun b => k1) (grown_trans' hS.2 k2)⟩⟩
          intro fr8 w8 listed hkn hall
          have hfr8 := hkn.fr hall [] (by kernel_rfl)
          have hat8 := hkn.st.1
          have hgr8 := hkn.st.2
          simp only [hall 5 (by decide), if_true] at hat8
          show Code.wp _ _ _ _ _
          refine reg_store (Drawn w8) _ rfl 106 _ [(.pointer (some ⟨g, 0, none⟩)), (.pointer (some ⟨g, 0, none⟩)), (.pointer (some ⟨g, 68, none⟩))] [none, none, none] [0, 1, 4, 5, 6] [(.pointer (some ⟨g, 0, none⟩)), (.slice A n c), (.int .i64 (n : Int)), .nilIface, (.int .i64 (r : Int))] (by kernel_rfl) hfr8 (fun r w => by kernel_rfl) (fun r => by kernel_rfl) (Drawn.refl _) trivial rfl rfl (x := .tmp 61) (y := .const (.int .i64 0)) rfl (b := g) (k := 68) (kd := .i64) (n := 0) (fun r => by kernel_rfl) (fun r => by kernel_rfl) Try.sizeInt (fun w' hw' => At.there1 (hw'.at_ hat8) 68 (by rw [DCg_len (sb := 4) rfl hX5]; omega)) fun fr9 w9' hw9 hfr9 => ?_
          show _ ∧ _
          have hfill := hL.fill (md5G_loc) (p.take r) (by simp; omega) X5 hX5
          rw [← hX5e] at hfill
          refine ⟨rfl, _, X5, 0, hfill, ?_, grown_trans' (hw9.grown hgr8) (grown_set _ _ _ _), .inl rfl, hfr9⟩
          have h := At.set_ (hw9.at_ hat8) 68 (.int .i64 ((0 : Nat) : Int))
          rw [DCg_set_nx (sb := 4) rfl hX5] at h
          exact h
        · refine wp_cond_false ((hfr7.nth 5 rfl).trans (by rw [show (((q + r : Nat) : Int) == 64) = false by rw [beq_eq_false_iff_ne]; omega])) (wp_skip ?_)
          show _ ∧ _
          have hrn : r = n := by omega
          refine ⟨rfl, s, X5, q + r, ?_, hat7, hgr7, .inr (List.drop_eq_nil_of_le (by omega)), hfr7.sub [0, 1, 2, 3, 4] rfl⟩
          have h := hL.some_ (md5G_loc) (p.take r) (by simp; omega)
          rw [show q + (p.take r).length = q + r by simp; omega, ← hX5e] at h
          exact h
      · rintro e fr9 w9 ⟨rfl, s1, X1, q1, hL1, hat9, hgr9, hqd, hfr9⟩
        show Code.wp _ _ _ _ _
        obtain ⟨A1, c1, hsl, hby, hnc1, hA1⟩ := slice_drop g A n c r p hp hnc (by omega) hA
        have hb9 := hby _ hb
        refine last_quiet (Drawn w9) 106 _ [(.slice A n c), (.int .i64 (r : Int)), (.slice A1 (n - r) c1), (.slice A1 (n - r) c1)] [none, none, some (.sem (Instr.sliceAt 22 (.slice A n c) (some (.int .i64 (r : Int))) none none) (.slice A1 (n - r) c1)), none] [0, 1, 4, 5] [(.pointer (some ⟨g, 0, none⟩)), (.slice A1 (n - r) c1), (.int .i64 (n : Int)), .nilIface] hm (by kernel_rfl) (by kernel_rfl) hfr9 (fun r w => by kernel_rfl) (fun r => by kernel_rfl) (Drawn.refl w9) (fun _ => (Drawn.refl w9).drew) ⟨fun w _ => hsl w, trivial⟩ fun fr10 w10 hw10 hfr10 => ?_
        show _ ∧ _
        refine ⟨rfl, T ++ p.take r, p.drop r, s1, X1, q1, A1, c1, by rw [List.append_assoc, List.take_append_drop], hL1, by rw [hTn]; exact hw10.at_ hat9, hw10.grown hgr9, hqd, hb9, hA1, by rw [List.length_drop, hp]; exact hnc1, by rw [List.length_drop]; omega, ?_⟩
        rw [List.length_drop, hp]
        exact hfr10
    · refine wp_cond_false ((hfr4.nth 4 rfl).trans (by rw [decide_eq_false (show ¬ (0 : Int) < (q : Int) by omega)])) (wp_skip ?_)
      show _ ∧ _
      refine ⟨rfl, T, p, s, X, q, A, c, rfl, hL, by rw [hTn]; exact hat4, hgr4, .inl (by omega), hb, hA, by omega, by omega, ?_⟩
      rw [hp]
      exact hfr4.sub [0, 1, 2, 3] rfl
  · rintro e fr w ⟨rfl, T1, P1, s1, X1, q1, A1, c1, hTP, hL1, hat1, hgr1, hqP, hb1, hA1, hnc1, hlt1, hfr1⟩
    show Code.wp _ _ _ _ _
    clear hfr3 hat3 hgr3
    have hX1 : X1.length = 64 := hL1.2.2.1
    obtain ⟨n1, hn1⟩ : ∃ z, z = P1.length := ⟨_, rfl⟩
    rw [← hn1] at hfr1 hnc1 hlt1
    refine wp_seq (wp_mono (Q := fun e a w => e = .normal ∧ Mid 106 57 cellsM md5G ivM g (T ++ p) n w0 63 w a) ?_ ?_)
    · skip
      refine seq_quiet (Drawn w) 106 _ [(.slice A1 n1 c1), (.int .i64 (n1 : Int)), (.bool (decide (64 ≤ (n1 : Int))))] [none, none, none] [0, 1, 4, 5, 67] [(.pointer (some ⟨g, 0, none⟩)), (.slice A1 n1 c1), (.int .i64 (n : Int)), .nilIface, (.bool (decide (64 ≤ (n1 : Int))))] hm (by kernel_rfl) (by kernel_rfl) hfr1 (fun r w => by kernel_rfl) (fun r => by kernel_rfl) (Drawn.refl w) (fun _ => (Drawn.refl w).drew) trivial fun fr2 w2 hw2 hfr2 => ?_
      have hat2 := hw2.at_ hat1
      have hgr2 := hw2.grown hgr1
      by_cases h64 : 64 ≤ n1
      · refine wp_cond_true ((hfr2.nth 4 rfl).trans (by rw [decide_eq_true (show (64 : Int) ≤ (n1 : Int) by omega)])) ?_
        have hq1 : q1 = 0 := by
          rcases hqP with h | h
          · exact h
          · rw [h] at hn1; simp at hn1; omega
        obtain ⟨m, hmm⟩ : ∃ z, z = n1 / 64 := ⟨_, rfl⟩
        have hand : bits .andNot .i64 (n1 : Int) 63 = ((64 * m : Nat) : Int) := by rw [hmm]; exact andNot63 ⟨n1, by omega⟩
        obtain ⟨B, o, hA1e, hBlt, hcells⟩ := hb1 (by omega)
        subst hA1e
        have hBg : B ≠ g := by
          rcases hA1 with h | ⟨b, off, h, hne⟩
          · cases h
          · injection h with h; injection h with h; rw [h]; exact hne
        refine seq_quiet (Drawn w2) 106 _ [(.slice (some ⟨B, o, none⟩) n1 c1), (.int .i64 (n1 : Int)), (.int .i64 (bits .andNot .i64 (n1 : Int) 63)), (.int .i64 (bits .andNot .i64 (n1 : Int) 63))] [none, none, none, none] [0, 1, 4, 5, 7] [(.pointer (some ⟨g, 0, none⟩)), (.slice (some ⟨B, o, none⟩) n1 c1), (.int .i64 (n : Int)), .nilIface, (.int .i64 (bits .andNot .i64 (n1 : Int) 63))] hm (by kernel_rfl) (by kernel_rfl) hfr2 (fun r w => by kernel_rfl) (fun r => by kernel_rfl) (Drawn.refl w2) (fun _ => (Drawn.refl w2).drew) trivial fun fr3 w3 hw3 hfr3 => ?_
        rw [hand] at hfr3
        have hat3 := hw3.at_ hat2
        have hgr3 := hw3.grown hgr2
        refine wp_seq (wp_cond_false rfl ?_)
        refine reg_any (b := false) 8 106 [(0, (.pointer (some ⟨g, 0, none⟩))), (1, (.slice (some ⟨B, o, none⟩) n1 c1)), (4, (.int .i64 (n : Int))), (5, .nilIface), (7, (.int .i64 ((64 * m : Nat) : Int)))] (fun zz => [(.pointer (some ⟨g, 0, none⟩)), (.slice (some ⟨B, o, none⟩) n1 c1), (.int .i64 ((64 * m : Nat) : Int)), (.slice (some ⟨B, o, none⟩) (64 * m) c1), (.tuple #[])].getD zz undef) (GS w0 g 57 4 99 (fun b _ => DCg (cellsM (if b then BsFrom md5G P1 0 s1 m else s1)) X1 q1 (T ++ p).length)) [0, 1, 2, 3, 4] hm (by kernel_rfl) (by kernel_rfl) (by kernel_rfl) (by kernel_rfl) hfr3 ⟨by rw [getD_replicate_false]; exact hat3, hgr3⟩ ⟨?_, ?_, ?_, ?_, ?_, trivial⟩ ?_
        · exact ⟨_, [], rfl, rfl, by kernel_rfl, fun rr listed w' hsz hun hpl hS => ⟨.value (.pointer (some ⟨g, 0, none⟩)), w', by kernel_rfl, .inl ⟨rfl, hS.other 0 (by decide) (by decide)⟩⟩⟩
        · exact ⟨_, [], rfl, rfl, by kernel_rfl, fun rr listed w' hsz hun hpl hS => ⟨.value (.slice (some ⟨B, o, none⟩) n1 c1), w', by kernel_rfl, .inl ⟨rfl, hS.other 1 (by decide) (by decide)⟩⟩⟩
        · exact ⟨_, [], rfl, rfl, by kernel_rfl, fun rr listed w' hsz hun hpl hS => ⟨.value (.int .i64 ((64 * m : Nat) : Int)), w', by kernel_rfl, .inl ⟨rfl, hS.other 2 (by decide) (by decide)⟩⟩⟩
        · exact ⟨_, [1, 2], rfl, rfl, by kernel_rfl, fun rr listed w' hsz hun hpl hS => ⟨.value (.slice (some ⟨B, o, none⟩) (64 * m) c1), w', slice_run rfl (X := (.slice (some ⟨B, o, none⟩) n1 c1)) (L := none) (H := some (.int .i64 ((64 * m : Nat) : Int))) (M := none) (by kernel_rfl) rfl (by kernel_rfl) rfl (slice_to B o n1 c1 (64 * m) (by omega) w'), .inl ⟨rfl, hS.other 3 (by decide) (by decide)⟩⟩⟩
        · exact ⟨_, [0, 3], rfl, rfl, by kernel_rfl, fun rr listed w' hsz hun hpl hS => by
          have h1 := hS.1
          simp only [hun, Bool.false_eq_true, if_false] at h1
          refine ⟨.enter 27 #[(.pointer (some ⟨g, 0, none⟩)), (.slice (some ⟨B, o, none⟩) (64 * m) c1)], w', by kernel_rfl, .inr (.inr ⟨_, _, rfl, ?_⟩)⟩
          have hbP := hb1.grown hS.2 hA1
          refine (md5_blockAt g s1 _ B o m c1 (64 * m) rfl (by omega) (by omega) (P1.take (64 * m)) (by rw [List.length_take]; omega) w' h1 (hbP.lt (by omega)) (fun j hj => by
            have hj' : j < P1.length := by rw [List.length_take] at hj; omega
            obtain ⟨b2, o2, e2, -, hc2⟩ := hbP (by omega)
            injection e2 with e2
            injection e2 with e3 e4
            subst e3
            subst e4
            rw [hc2 j hj']
            simp)).mono ?_
          rintro e w'' ⟨rfl, k1, k2⟩
          rw [show BsFrom md5G (P1.take (64 * m)) 0 s1 m = BsFrom md5G P1 0 s1 m from BsFrom_congr md5G_loc _ _ _ _ _ _ fun j hj => by simp only [List.getD]; rw [List.getElem?_take_of_lt (by omega)]] at k1
          exact ⟨rfl, hS.one hsz hun (fun b => k1) (grown_trans' hS.2 k2)⟩⟩
        intro fr4 w4 listed hkn hall
        have hfr4 := hkn.fr hall [] (by kernel_rfl)
        have hat4 := hkn.st.1
        have hgr4 := hkn.st.2
        simp only [hall 4 (by decide), if_true] at hat4
        show Code.wp _ _ _ _ _
        obtain ⟨A2, c2, hsl, hby, hnc2, hA2⟩ := slice_drop g (some ⟨B, o, none⟩) n1 c1 (64 * m) P1 hn1.symm hnc1 (by omega) hA1
        have hb4 := hby _ hb1
        refine last_quiet (Drawn w4) 106 _ [(.slice (some ⟨B, o, none⟩) n1 c1), (.int .i64 ((64 * m : Nat) : Int)), (.slice A2 (n1 - 64 * m) c2), (.slice A2 (n1 - 64 * m) c2)] [none, none, some (.sem (Instr.sliceAt 22 (.slice (some ⟨B, o, none⟩) n1 c1) (some (.int .i64 ((64 * m : Nat) : Int))) none none) (.slice A2 (n1 - 64 * m) c2)), none] [0, 1, 4, 5] [(.pointer (some ⟨g, 0, none⟩)), (.slice A2 (n1 - 64 * m) c2), (.int .i64 (n : Int)), .nilIface] hm (by kernel_rfl) (by kernel_rfl) hfr4 (fun r w => by kernel_rfl) (fun r => by kernel_rfl) (Drawn.refl w4) (fun _ => (Drawn.refl w4).drew) ⟨fun w _ => hsl w, trivial⟩ fun fr5 w5 hw5 hfr5 => ?_
        show _ ∧ _
        refine ⟨rfl, T1 ++ P1.take (64 * m), P1.drop (64 * m), _, X1, 0, A2, c2, by rw [List.append_assoc, List.take_append_drop]; exact hTP, hL1.blocks md5G_loc hq1 P1 m (by omega), by have h := hw5.at_ hat4; rw [hq1] at h; exact h, hw5.grown hgr4, .inl rfl, hb4, hA2, by rw [List.length_drop, ← hn1]; exact hnc2, by rw [List.length_drop]; omega, ?_⟩
        rw [List.length_drop, ← hn1]
        exact hfr5
      · refine wp_cond_false ((hfr2.nth 4 rfl).trans (by rw [decide_eq_false (show ¬ (64 : Int) ≤ (n1 : Int) by omega)])) (wp_skip ?_)
        show _ ∧ _
        refine ⟨rfl, T1, P1, s1, X1, q1, A1, c1, hTP, hL1, hat2, hgr2, hqP, hb1, hA1, by omega, by omega, ?_⟩
        rw [← hn1]
        exact hfr2.sub [0, 1, 2, 3] rfl
    · rintro e fr w ⟨rfl, T1, P1, s1, X1, q1, A1, c1, hTP, hL1, hat1, hgr1, hqP, hb1, hA1, hnc1, hlt1, hfr1⟩
      show Code.wp _ _ _ _ _
      have hX1 : X1.length = 64 := hL1.2.2.1
      obtain ⟨n1, hn1⟩ : ∃ z, z = P1.length := ⟨_, rfl⟩
      rw [← hn1] at hfr1 hnc1 hlt1
      refine wp_seq (wp_mono (Q := fun e a w => e = .normal ∧ (∃ (s' : S4) (X' : List UInt8) (q' : Nat), Left md5G ivM (T ++ p) s' X' q' ∧ At w g 57 (DCg (cellsM s') X' q' (T ++ p).length)) ∧ w0.grownBy w (some g) ∧ Fr 106 [(4, .int .i64 (n : Int)), (5, .nilIface)] a) ?_ ?_)
      · skip
        refine seq_quiet (Drawn w) 106 _ [(.slice A1 n1 c1), (.int .i64 (n1 : Int)), (.bool (decide (0 < (n1 : Int))))] [none, none, none] [0, 1, 4, 5, 96] [(.pointer (some ⟨g, 0, none⟩)), (.slice A1 n1 c1), (.int .i64 (n : Int)), .nilIface, (.bool (decide (0 < (n1 : Int))))] hm (by kernel_rfl) (by kernel_rfl) hfr1 (fun r w => by kernel_rfl) (fun r => by kernel_rfl) (Drawn.refl w) (fun _ => (Drawn.refl w).drew) trivial fun fr2 w2 hw2 hfr2 => ?_
        have hat2 := hw2.at_ hat1
        have hgr2 := hw2.grown hgr1
        by_cases h0 : 0 < n1
        · refine wp_cond_true ((hfr2.nth 4 rfl).trans (by rw [decide_eq_true (show (0 : Int) < (n1 : Int) by omega)])) ?_
          have hq1 : q1 = 0 := by
            rcases hqP with h | h
            · exact h
            · rw [h] at hn1; simp at hn1; omega
          subst hq1
          refine reg_any (b := false) 6 106 [(0, (.pointer (some ⟨g, 0, none⟩))), (1, (.slice A1 n1 c1)), (4, (.int .i64 (n : Int))), (5, .nilIface)] (fun zz => [(.pointer (some ⟨g, 0, none⟩)), (.pointer (some ⟨g, 0, none⟩)), (.pointer (some ⟨g, 0, none⟩)), (.pointer (some ⟨g, 4, none⟩)), (.slice (some ⟨g, 4, none⟩) 64 64), (.slice A1 n1 c1), (.int .i64 (n1 : Int)), (.pointer (some ⟨g, 0, none⟩)), (.pointer (some ⟨g, 68, none⟩)), undef].getD zz undef) (GS w0 g 57 6 9 (fun b d => DCg (cellsM s1) (if b then splice X1 0 P1 else X1) (if d then n1 else 0) (T ++ p).length)) [0, 1, 2, 3, 4, 5, 6, 7, 8, 9] hm (by kernel_rfl) (by kernel_rfl) (by kernel_rfl) (by kernel_rfl) (hfr2.sub [0, 1, 2, 3] rfl) ⟨by rw [getD_replicate_false, getD_replicate_false]; exact hat2, hgr2⟩ ⟨?_, ?_, ?_, ?_, ?_, ?_, ?_, ?_, ?_, ?_, trivial⟩ ?_
          · exact ⟨_, [], rfl, rfl, by kernel_rfl, fun rr listed w' hsz hun hpl hS => ⟨.value (.pointer (some ⟨g, 0, none⟩)), w', by kernel_rfl, .inl ⟨rfl, hS.other 0 (by decide) (by decide)⟩⟩⟩
          · exact ⟨_, [], rfl, rfl, by kernel_rfl, fun rr listed w' hsz hun hpl hS => ⟨.value (.pointer (some ⟨g, 0, none⟩)), w', by kernel_rfl, .inl ⟨rfl, hS.other 1 (by decide) (by decide)⟩⟩⟩
          · exact ⟨_, [1], rfl, rfl, by kernel_rfl, fun rr listed w' hsz hun hpl hS => ⟨.value (.pointer (some ⟨g, 0, none⟩)), w', by kernel_rfl, .inl ⟨rfl, hS.other 2 (by decide) (by decide)⟩⟩⟩
          · exact ⟨_, [2], rfl, rfl, by kernel_rfl, fun rr listed w' hsz hun hpl hS => ⟨.value (.pointer (some ⟨g, 4, none⟩)), w', by kernel_rfl, .inl ⟨rfl, hS.other 3 (by decide) (by decide)⟩⟩⟩
          · exact ⟨_, [3], rfl, rfl, by kernel_rfl, fun rr listed w' hsz hun hpl hS => ⟨.value (.slice (some ⟨g, 4, none⟩) 64 64), w', by kernel_rfl, .inl ⟨rfl, hS.other 4 (by decide) (by decide)⟩⟩⟩
          · exact ⟨_, [], rfl, rfl, by kernel_rfl, fun rr listed w' hsz hun hpl hS => ⟨.value (.slice A1 n1 c1), w', by kernel_rfl, .inl ⟨rfl, hS.other 5 (by decide) (by decide)⟩⟩⟩
          · exact ⟨_, [4, 5], rfl, rfl, by kernel_rfl, fun rr listed w' hsz hun hpl hS => by
            have h1 := hS.1
            simp only [hun, Bool.false_eq_true, if_false] at h1
            refine copy_step (P := Try.prog) (d := .tmp 101) (s := .tmp 102) rfl Try.underlying22 Try.size8 (g := g) (off := 4) (dLen := 64) (dCap := 64) (n := n1) (c := c1) (A := A1) (by kernel_rfl) (by kernel_rfl) (hb1.grown hS.2 hA1) hn1.symm h1 n1 (by omega) (by rw [DCg_len (sb := 4) rfl hX1]; omega) rfl fun w'' k2 => ?_
            refine hS.one1 hsz hun (by decide) ?_ (grown_trans' hS.2 k2.grown)
            have h2 := k2.at_
            rw [show P1.take n1 = P1 from List.take_of_length_le (by omega)] at h2
            rw [show (4 : Nat) = 4 + 0 from rfl, DCg_splice (sb := 4) rfl hX1 0 P1 (by omega)] at h2
            exact h2⟩
          · exact ⟨_, [0], rfl, rfl, by kernel_rfl, fun rr listed w' hsz hun hpl hS => ⟨.value (.pointer (some ⟨g, 0, none⟩)), w', by kernel_rfl, .inl ⟨rfl, hS.other 7 (by decide) (by decide)⟩⟩⟩
          · exact ⟨_, [7], rfl, rfl, by kernel_rfl, fun rr listed w' hsz hun hpl hS => ⟨.value (.pointer (some ⟨g, 68, none⟩)), w', by kernel_rfl, .inl ⟨rfl, hS.other 8 (by decide) (by decide)⟩⟩⟩
          · exact ⟨_, [8, 6], rfl, rfl, by kernel_rfl, fun rr listed w' hsz hun hpl hS => by
            have h1 := hS.1
            simp only [hun, Bool.false_eq_true, if_false] at h1
            have hXb : (if listed.getD 6 false = true then splice X1 0 P1 else X1).length = 64 := by
              split
              · rw [splice_len _ _ _ (by omega)]; exact hX1
              · exact hX1
            refine ⟨.skip, _, store_run (x := .tmp 105) (y := .tmp 103) rfl (b := g) (k := 68) (kd := .i64) (n := (n1 : Int)) (by kernel_rfl) (by kernel_rfl) (At.there1 h1 68 (by rw [DCg_len (sb := 4) rfl hXb]; omega)) Try.sizeInt, .inr (.inl ⟨rfl, rfl, ?_⟩)⟩
            refine hS.two hsz hun (by decide) ?_ (grown_trans' hS.2 (grown_set _ _ _ _))
            have h2 := h1.set_ 68 (.int .i64 (n1 : Int))
            rw [DCg_set_nx (sb := 4) rfl hXb] at h2
            exact h2⟩
          intro fr3 w3 listed hkn hall
          have hfr3 := hkn.fr hall [] (by kernel_rfl)
          have hat3 := hkn.st.1
          have hgr3 := hkn.st.2
          simp only [hall 6 (by decide), hall 9 (by decide), if_true] at hat3
          show _ ∧ _
          refine ⟨rfl, ⟨s1, _, n1, ?_, hat3⟩, hgr3, hfr3.sub [2, 3] rfl⟩
          have h := hL1.some_ md5G_loc P1 (by omega)
          rw [Nat.zero_add, ← hn1, hTP] at h
          exact h
        · refine wp_cond_false ((hfr2.nth 4 rfl).trans (by rw [decide_eq_false (show ¬ (0 : Int) < (n1 : Int) by omega)])) (wp_skip ?_)
          show _ ∧ _
          have hP1 : P1 = [] := List.eq_nil_of_length_eq_zero (by omega)
          rw [hP1, List.append_nil] at hTP
          rw [hTP] at hL1
          exact ⟨rfl, ⟨s1, X1, q1, hL1, hat2⟩, hgr2, hfr2.sub [2, 3] rfl⟩
      · rintro e fr w ⟨rfl, hfin, hgrf, hfrf⟩
        show Code.wp _ _ _ _ _
        refine wp_ret ?_
        refine bodyPost_ret (results_two rfl (hfrf.nth 0 rfl) (hfrf.nth 1 rfl)) hfrf.2.1 ?_
        exact ⟨rfl, hfin, hgrf⟩
end Go.Proofs.Ytahkgkonpjimpaa
