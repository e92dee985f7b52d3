/-
  The functions that put a number's bytes into a slice.
-/
import Derived.Test.YtahkgkonpjimpaaWrAid
namespace Go.Proofs.Ytahkgkonpjimpaa
open Go.RowKit
set_option linter.unusedVariables false
theorem splice_set {α : Type} (v : α) (r : List α) : ∀ (L : List α) (o : Nat), o < L.length → splice (L.set o v) (o + 1) r = splice L o (v :: r)
  | [], o, h => by simp at h
  | a :: L, 0, h => by simp [splice, Nat.add_comm]
  | a :: L, o + 1, h => by
    have := splice_set v r L o (by simpa using h)
    unfold splice at this ⊢
    simp only [List.set_cons_succ, List.take_succ_cons, List.cons_append, List.cons.injEq, true_and]
    rw [show o + 1 + 1 + r.length = (o + 1 + r.length) + 1 by omega, show o + 1 + (v :: r).length = (o + (v :: r).length) + 1 by omega, List.drop_succ_cons, List.drop_succ_cons]
    exact this
def by8 (z : Int) : UInt8 := UInt8.ofNat (IntKind.u8.wrap z).toNat
theorem B8_by8 (z : Int) : B8 (by8 z) = .int .u8 (IntKind.u8.wrap z) := by
  have h : 0 ≤ IntKind.u8.wrap z ∧ IntKind.u8.wrap z < 256 := by simp [IntKind.wrap, IntKind.bits, IntKind.signed]; omega
  unfold B8 by8
  congr 1
  rw [UInt8.toNat_ofNat']
  omega
def le4B (v : Int) : List UInt8 := [by8 v, by8 (v.fdiv (2 ^ 8)), by8 (v.fdiv (2 ^ 16)), by8 (v.fdiv (2 ^ 24))]
def be4B (v : Int) : List UInt8 := [by8 (v.fdiv (2 ^ 24)), by8 (v.fdiv (2 ^ 16)), by8 (v.fdiv (2 ^ 8)), by8 v]
def le8B (v : Int) : List UInt8 := [by8 (v.fdiv (2 ^ 0)), by8 (v.fdiv (2 ^ 8)), by8 (v.fdiv (2 ^ 16)), by8 (v.fdiv (2 ^ 24)), by8 (v.fdiv (2 ^ 32)), by8 (v.fdiv (2 ^ 40)), by8 (v.fdiv (2 ^ 48)), by8 (v.fdiv (2 ^ 56))]
def be8B (v : Int) : List UInt8 := [by8 (v.fdiv (2 ^ 56)), by8 (v.fdiv (2 ^ 48)), by8 (v.fdiv (2 ^ 40)), by8 (v.fdiv (2 ^ 32)), by8 (v.fdiv (2 ^ 24)), by8 (v.fdiv (2 ^ 16)), by8 (v.fdiv (2 ^ 8)), by8 (v.fdiv (2 ^ 0))]
/-- What a put leaves: the bytes in their place. -/
def PutOk (b : Nat) (t : TypeId) (cs : List Value) (w : World) (e : Ending) (w' : World) : Prop := e = .returned (.tuple #[]) ∧ At w' b t cs ∧ w.grownBy w' (some b)
theorem splice_snoc (cs : List Value) (o : Nat) (L M : List UInt8) (k : Nat) (hL : L = M.take k) (h : k < M.length ∧ o + k < cs.length) : splice cs o ((M.take (k + 1)).map B8) = (splice cs o (L.map B8)).set (o + k) (B8 (M.getD k 0)) := by
  subst hL
  obtain ⟨h1, h2⟩ := h
  have e : M.take (k + 1) = M.take k ++ [M.getD k 0] := by
    rw [List.take_succ_eq_append_getElem h1]
    simp [List.getD, h1]
  have hl : ((M.take k).map B8).length = k := by simp; omega
  unfold splice
  rw [e, List.map_append, List.length_append, hl, List.set_append_right _ _ (by simp; omega), List.set_append_right _ _ (by simp; omega), List.length_take, Nat.min_eq_left (by omega), hl]
  rw [show o + k - o - k = 0 by omega, List.drop_eq_getElem_cons (show o + k < cs.length by omega)]
  simp [Nat.add_assoc]
theorem splice_nil {α : Type} (L : List α) (o : Nat) : splice L o [] = L := by simp [splice]
set_option maxRecDepth 1000000 in
set_option maxHeartbeats 4000000 in
theorem le4_put (b o l c : Nat) (v : Int) (t : TypeId) (cs : List Value) (w0 : World) (hg : At w0 b t cs) (hl : 4 ≤ l) (hfit : o + 4 ≤ cs.length) :
    Calls Try.prog 38 #[(.slice (some ⟨b, o, none⟩) l c), .int .u32 v] w0 (PutOk b t (splice cs o ((le4B v).map B8)) w0) := by
  have hm : Try.prog.follows .mixedOrders = true := by kernel_rfl
  obtain ⟨x, hxe⟩ : ∃ x, w0.cell? ⟨b, o + 3, none⟩ = some x := ⟨_, hg.cell (o + 3) (by omega)⟩
  have hx := hxe
  go_enter Try.func38, Try.ntmps38
  refine fr_start 26 [(0, (.slice (some ⟨b, o, none⟩) l c)), (1, .int .u32 v)] ⟨by kernel_rfl, rfl, List.forall_mem_cons.2 ⟨by kernel_rfl, List.forall_mem_cons.2 ⟨by kernel_rfl, fun _ h => by cases h⟩⟩⟩ fun fr0 hfr0 => ?_
  refine seq_quiet (Drawn w0) 26 _ [(.slice (some ⟨b, o, none⟩) l c), (.pointer (some ⟨b, o + 3, none⟩)), x] [none, some (.sem (Instr.indexAt 22 (.slice (some ⟨b, o, none⟩) l c) (.int .i64 3)) (.pointer (some ⟨b, o + 3, none⟩))), some (.sem (Instr.loadAt 5 (.pointer (some ⟨b, o + 3, none⟩))) x)] [0, 1] [(.slice (some ⟨b, o, none⟩) l c), (.int .u32 v)] hm (by kernel_rfl) (by kernel_rfl) hfr0 (fun r w => by kernel_rfl) (fun r => by kernel_rfl) (Drawn.refl w0) (fun _ => (Drawn.refl w0).drew) ⟨fun w _ => idxB_run b o l c 3 _ rfl (by omega) w, load_item hx Try.underlying5 rfl, trivial⟩ fun f1 w1 hw1 hf1 => ?_
  have at1 := hw1.at_ hg
  have gr1 : w0.grownBy w1 (some b) := hw1.grown (grown_self _ _)
  refine wp_seq (reg_store (Drawn w1) _ rfl 26 _ [(.slice (some ⟨b, o, none⟩) l c), (.int .u32 v), (.int .u8 (IntKind.u8.wrap v)), (.pointer (some ⟨b, o, none⟩))] [none, none, none, some (.sem (Instr.indexAt 22 (.slice (some ⟨b, o, none⟩) l c) (.int .i64 0)) (.pointer (some ⟨b, o, none⟩)))] [0, 1] [(.slice (some ⟨b, o, none⟩) l c), (.int .u32 v)] (by kernel_rfl) hf1 (fun r w => by kernel_rfl) (fun r => by kernel_rfl) (Drawn.refl _) ⟨fun w _ => idxB_run b o l c 0 _ rfl (by omega) w, trivial⟩ rfl rfl (x := .tmp 10) (y := .tmp 9) rfl (b := b) (k := o + 0) (kd := .u8) (n := (IntKind.u8.wrap v)) (fun r => by kernel_rfl) (fun r => by kernel_rfl) Try.size8 (fun w' hw' => At.there1 (hw'.at_ at1) (o + 0) (by simp; omega)) fun f2 w2' hw2 hf2 => ?_)
  have at2 := At.set_ (hw2.at_ at1) (o + 0) (.int .u8 (IntKind.u8.wrap v))
  have gr2 : w0.grownBy (w2'.setCell ⟨b, o + 0, none⟩ (.int .u8 (IntKind.u8.wrap v))) (some b) := grown_trans' (hw2.grown gr1) (grown_set _ _ _ _)
  obtain ⟨w2, hwe2⟩ : ∃ z, z = w2'.setCell ⟨b, o + 0, none⟩ (.int .u8 (IntKind.u8.wrap v)) := ⟨_, rfl⟩
  rw [← hwe2] at at2 gr2 ⊢
  show Code.wp _ _ _ _ _
  refine wp_seq (reg_store (Drawn w2) _ rfl 26 _ [(.slice (some ⟨b, o, none⟩) l c), (.int .u32 v), (.int .u32 (v.fdiv (2 ^ 8))), (.int .u8 (IntKind.u8.wrap (v.fdiv (2 ^ 8)))), (.pointer (some ⟨b, o + 1, none⟩))] [none, none, none, none, some (.sem (Instr.indexAt 22 (.slice (some ⟨b, o, none⟩) l c) (.int .i64 1)) (.pointer (some ⟨b, o + 1, none⟩)))] [0, 1] [(.slice (some ⟨b, o, none⟩) l c), (.int .u32 v)] (by kernel_rfl) hf2 (fun r w => by kernel_rfl) (fun r => by kernel_rfl) (Drawn.refl _) ⟨fun w _ => idxB_run b o l c 1 _ rfl (by omega) w, trivial⟩ rfl rfl (x := .tmp 15) (y := .tmp 14) rfl (b := b) (k := o + 1) (kd := .u8) (n := (IntKind.u8.wrap (v.fdiv (2 ^ 8)))) (fun r => by kernel_rfl) (fun r => by kernel_rfl) Try.size8 (fun w' hw' => At.there1 (hw'.at_ at2) (o + 1) (by simp; omega)) fun f3 w3' hw3 hf3 => ?_)
  have at3 := At.set_ (hw3.at_ at2) (o + 1) (.int .u8 (IntKind.u8.wrap (v.fdiv (2 ^ 8))))
  have gr3 : w0.grownBy (w3'.setCell ⟨b, o + 1, none⟩ (.int .u8 (IntKind.u8.wrap (v.fdiv (2 ^ 8))))) (some b) := grown_trans' (hw3.grown gr2) (grown_set _ _ _ _)
  obtain ⟨w3, hwe3⟩ : ∃ z, z = w3'.setCell ⟨b, o + 1, none⟩ (.int .u8 (IntKind.u8.wrap (v.fdiv (2 ^ 8)))) := ⟨_, rfl⟩
  rw [← hwe3] at at3 gr3 ⊢
  show Code.wp _ _ _ _ _
  refine wp_seq (reg_store (Drawn w3) _ rfl 26 _ [(.slice (some ⟨b, o, none⟩) l c), (.int .u32 v), (.int .u32 (v.fdiv (2 ^ 16))), (.int .u8 (IntKind.u8.wrap (v.fdiv (2 ^ 16)))), (.pointer (some ⟨b, o + 2, none⟩))] [none, none, none, none, some (.sem (Instr.indexAt 22 (.slice (some ⟨b, o, none⟩) l c) (.int .i64 2)) (.pointer (some ⟨b, o + 2, none⟩)))] [0, 1] [(.slice (some ⟨b, o, none⟩) l c), (.int .u32 v)] (by kernel_rfl) hf3 (fun r w => by kernel_rfl) (fun r => by kernel_rfl) (Drawn.refl _) ⟨fun w _ => idxB_run b o l c 2 _ rfl (by omega) w, trivial⟩ rfl rfl (x := .tmp 20) (y := .tmp 19) rfl (b := b) (k := o + 2) (kd := .u8) (n := (IntKind.u8.wrap (v.fdiv (2 ^ 16)))) (fun r => by kernel_rfl) (fun r => by kernel_rfl) Try.size8 (fun w' hw' => At.there1 (hw'.at_ at3) (o + 2) (by simp; omega)) fun f4 w4' hw4 hf4 => ?_)
  have at4 := At.set_ (hw4.at_ at3) (o + 2) (.int .u8 (IntKind.u8.wrap (v.fdiv (2 ^ 16))))
  have gr4 : w0.grownBy (w4'.setCell ⟨b, o + 2, none⟩ (.int .u8 (IntKind.u8.wrap (v.fdiv (2 ^ 16))))) (some b) := grown_trans' (hw4.grown gr3) (grown_set _ _ _ _)
  obtain ⟨w4, hwe4⟩ : ∃ z, z = w4'.setCell ⟨b, o + 2, none⟩ (.int .u8 (IntKind.u8.wrap (v.fdiv (2 ^ 16)))) := ⟨_, rfl⟩
  rw [← hwe4] at at4 gr4 ⊢
  show Code.wp _ _ _ _ _
  refine reg_store (Drawn w4) _ rfl 26 _ [(.slice (some ⟨b, o, none⟩) l c), (.int .u32 v), (.int .u32 (v.fdiv (2 ^ 24))), (.int .u8 (IntKind.u8.wrap (v.fdiv (2 ^ 24)))), (.pointer (some ⟨b, o + 3, none⟩))] [none, none, none, none, some (.sem (Instr.indexAt 22 (.slice (some ⟨b, o, none⟩) l c) (.int .i64 3)) (.pointer (some ⟨b, o + 3, none⟩)))] [0, 1] [(.slice (some ⟨b, o, none⟩) l c), (.int .u32 v)] (by kernel_rfl) hf4 (fun r w => by kernel_rfl) (fun r => by kernel_rfl) (Drawn.refl _) ⟨fun w _ => idxB_run b o l c 3 _ rfl (by omega) w, trivial⟩ rfl rfl (x := .tmp 25) (y := .tmp 24) rfl (b := b) (k := o + 3) (kd := .u8) (n := (IntKind.u8.wrap (v.fdiv (2 ^ 24)))) (fun r => by kernel_rfl) (fun r => by kernel_rfl) Try.size8 (fun w' hw' => At.there1 (hw'.at_ at4) (o + 3) (by simp; omega)) fun f5 w5' hw5 hf5 => ?_
  have at5 := At.set_ (hw5.at_ at4) (o + 3) (.int .u8 (IntKind.u8.wrap (v.fdiv (2 ^ 24))))
  have gr5 : w0.grownBy (w5'.setCell ⟨b, o + 3, none⟩ (.int .u8 (IntKind.u8.wrap (v.fdiv (2 ^ 24))))) (some b) := grown_trans' (hw5.grown gr4) (grown_set _ _ _ _)
  obtain ⟨w5, hwe5⟩ : ∃ z, z = w5'.setCell ⟨b, o + 3, none⟩ (.int .u8 (IntKind.u8.wrap (v.fdiv (2 ^ 24)))) := ⟨_, rfl⟩
  rw [← hwe5] at at5 gr5 ⊢
  refine bodyPost_end (results_none rfl _ _ _) hf5.2.1 ⟨rfl, ?_, gr5⟩
  have e : (le4B v).map B8 = [.int .u8 (IntKind.u8.wrap v), .int .u8 (IntKind.u8.wrap (v.fdiv (2 ^ 8))), .int .u8 (IntKind.u8.wrap (v.fdiv (2 ^ 16))), .int .u8 (IntKind.u8.wrap (v.fdiv (2 ^ 24)))] := by
    unfold le4B
    simp only [List.map_cons, List.map_nil, B8_by8]
  rw [e, ← splice_set _ _ _ _ (by omega), ← splice_set _ _ _ _ (by simp; omega), ← splice_set _ _ _ _ (by simp; omega), ← splice_set _ _ _ _ (by simp; omega), splice_nil]
  exact at5
set_option maxRecDepth 1000000 in
set_option maxHeartbeats 4000000 in
theorem be4_put (b o l c : Nat) (v : Int) (t : TypeId) (cs : List Value) (w0 : World) (hg : At w0 b t cs) (hl : 4 ≤ l) (hfit : o + 4 ≤ cs.length) :
    Calls Try.prog 41 #[(.slice (some ⟨b, o, none⟩) l c), .int .u32 v] w0 (PutOk b t (splice cs o ((be4B v).map B8)) w0) := by
  have hm : Try.prog.follows .mixedOrders = true := by kernel_rfl
  obtain ⟨x, hxe⟩ : ∃ x, w0.cell? ⟨b, o + 3, none⟩ = some x := ⟨_, hg.cell (o + 3) (by omega)⟩
  have hx := hxe
  go_enter Try.func41, Try.ntmps41
  refine fr_start 26 [(0, (.slice (some ⟨b, o, none⟩) l c)), (1, .int .u32 v)] ⟨by kernel_rfl, rfl, List.forall_mem_cons.2 ⟨by kernel_rfl, List.forall_mem_cons.2 ⟨by kernel_rfl, fun _ h => by cases h⟩⟩⟩ fun fr0 hfr0 => ?_
  refine seq_quiet (Drawn w0) 26 _ [(.slice (some ⟨b, o, none⟩) l c), (.pointer (some ⟨b, o + 3, none⟩)), x] [none, some (.sem (Instr.indexAt 22 (.slice (some ⟨b, o, none⟩) l c) (.int .i64 3)) (.pointer (some ⟨b, o + 3, none⟩))), some (.sem (Instr.loadAt 5 (.pointer (some ⟨b, o + 3, none⟩))) x)] [0, 1] [(.slice (some ⟨b, o, none⟩) l c), (.int .u32 v)] hm (by kernel_rfl) (by kernel_rfl) hfr0 (fun r w => by kernel_rfl) (fun r => by kernel_rfl) (Drawn.refl w0) (fun _ => (Drawn.refl w0).drew) ⟨fun w _ => idxB_run b o l c 3 _ rfl (by omega) w, load_item hx Try.underlying5 rfl, trivial⟩ fun f1 w1 hw1 hf1 => ?_
  have at1 := hw1.at_ hg
  have gr1 : w0.grownBy w1 (some b) := hw1.grown (grown_self _ _)
  refine wp_seq (reg_store (Drawn w1) _ rfl 26 _ [(.slice (some ⟨b, o, none⟩) l c), (.int .u32 v), (.int .u32 (v.fdiv (2 ^ 24))), (.int .u8 (IntKind.u8.wrap (v.fdiv (2 ^ 24)))), (.pointer (some ⟨b, o, none⟩))] [none, none, none, none, some (.sem (Instr.indexAt 22 (.slice (some ⟨b, o, none⟩) l c) (.int .i64 0)) (.pointer (some ⟨b, o, none⟩)))] [0, 1] [(.slice (some ⟨b, o, none⟩) l c), (.int .u32 v)] (by kernel_rfl) hf1 (fun r w => by kernel_rfl) (fun r => by kernel_rfl) (Drawn.refl _) ⟨fun w _ => idxB_run b o l c 0 _ rfl (by omega) w, trivial⟩ rfl rfl (x := .tmp 11) (y := .tmp 10) rfl (b := b) (k := o + 0) (kd := .u8) (n := (IntKind.u8.wrap (v.fdiv (2 ^ 24)))) (fun r => by kernel_rfl) (fun r => by kernel_rfl) Try.size8 (fun w' hw' => At.there1 (hw'.at_ at1) (o + 0) (by simp; omega)) fun f2 w2' hw2 hf2 => ?_)
  have at2 := At.set_ (hw2.at_ at1) (o + 0) (.int .u8 (IntKind.u8.wrap (v.fdiv (2 ^ 24))))
  have gr2 : w0.grownBy (w2'.setCell ⟨b, o + 0, none⟩ (.int .u8 (IntKind.u8.wrap (v.fdiv (2 ^ 24))))) (some b) := grown_trans' (hw2.grown gr1) (grown_set _ _ _ _)
  obtain ⟨w2, hwe2⟩ : ∃ z, z = w2'.setCell ⟨b, o + 0, none⟩ (.int .u8 (IntKind.u8.wrap (v.fdiv (2 ^ 24)))) := ⟨_, rfl⟩
  rw [← hwe2] at at2 gr2 ⊢
  show Code.wp _ _ _ _ _
  refine wp_seq (reg_store (Drawn w2) _ rfl 26 _ [(.slice (some ⟨b, o, none⟩) l c), (.int .u32 v), (.int .u32 (v.fdiv (2 ^ 16))), (.int .u8 (IntKind.u8.wrap (v.fdiv (2 ^ 16)))), (.pointer (some ⟨b, o + 1, none⟩))] [none, none, none, none, some (.sem (Instr.indexAt 22 (.slice (some ⟨b, o, none⟩) l c) (.int .i64 1)) (.pointer (some ⟨b, o + 1, none⟩)))] [0, 1] [(.slice (some ⟨b, o, none⟩) l c), (.int .u32 v)] (by kernel_rfl) hf2 (fun r w => by kernel_rfl) (fun r => by kernel_rfl) (Drawn.refl _) ⟨fun w _ => idxB_run b o l c 1 _ rfl (by omega) w, trivial⟩ rfl rfl (x := .tmp 16) (y := .tmp 15) rfl (b := b) (k := o + 1) (kd := .u8) (n := (IntKind.u8.wrap (v.fdiv (2 ^ 16)))) (fun r => by kernel_rfl) (fun r => by kernel_rfl) Try.size8 (fun w' hw' => At.there1 (hw'.at_ at2) (o + 1) (by simp; omega)) fun f3 w3' hw3 hf3 => ?_)
  have at3 := At.set_ (hw3.at_ at2) (o + 1) (.int .u8 (IntKind.u8.wrap (v.fdiv (2 ^ 16))))
  have gr3 : w0.grownBy (w3'.setCell ⟨b, o + 1, none⟩ (.int .u8 (IntKind.u8.wrap (v.fdiv (2 ^ 16))))) (some b) := grown_trans' (hw3.grown gr2) (grown_set _ _ _ _)
  obtain ⟨w3, hwe3⟩ : ∃ z, z = w3'.setCell ⟨b, o + 1, none⟩ (.int .u8 (IntKind.u8.wrap (v.fdiv (2 ^ 16)))) := ⟨_, rfl⟩
  rw [← hwe3] at at3 gr3 ⊢
  show Code.wp _ _ _ _ _
  refine wp_seq (reg_store (Drawn w3) _ rfl 26 _ [(.slice (some ⟨b, o, none⟩) l c), (.int .u32 v), (.int .u32 (v.fdiv (2 ^ 8))), (.int .u8 (IntKind.u8.wrap (v.fdiv (2 ^ 8)))), (.pointer (some ⟨b, o + 2, none⟩))] [none, none, none, none, some (.sem (Instr.indexAt 22 (.slice (some ⟨b, o, none⟩) l c) (.int .i64 2)) (.pointer (some ⟨b, o + 2, none⟩)))] [0, 1] [(.slice (some ⟨b, o, none⟩) l c), (.int .u32 v)] (by kernel_rfl) hf3 (fun r w => by kernel_rfl) (fun r => by kernel_rfl) (Drawn.refl _) ⟨fun w _ => idxB_run b o l c 2 _ rfl (by omega) w, trivial⟩ rfl rfl (x := .tmp 21) (y := .tmp 20) rfl (b := b) (k := o + 2) (kd := .u8) (n := (IntKind.u8.wrap (v.fdiv (2 ^ 8)))) (fun r => by kernel_rfl) (fun r => by kernel_rfl) Try.size8 (fun w' hw' => At.there1 (hw'.at_ at3) (o + 2) (by simp; omega)) fun f4 w4' hw4 hf4 => ?_)
  have at4 := At.set_ (hw4.at_ at3) (o + 2) (.int .u8 (IntKind.u8.wrap (v.fdiv (2 ^ 8))))
  have gr4 : w0.grownBy (w4'.setCell ⟨b, o + 2, none⟩ (.int .u8 (IntKind.u8.wrap (v.fdiv (2 ^ 8))))) (some b) := grown_trans' (hw4.grown gr3) (grown_set _ _ _ _)
  obtain ⟨w4, hwe4⟩ : ∃ z, z = w4'.setCell ⟨b, o + 2, none⟩ (.int .u8 (IntKind.u8.wrap (v.fdiv (2 ^ 8)))) := ⟨_, rfl⟩
  rw [← hwe4] at at4 gr4 ⊢
  show Code.wp _ _ _ _ _
  refine reg_store (Drawn w4) _ rfl 26 _ [(.slice (some ⟨b, o, none⟩) l c), (.int .u32 v), (.int .u8 (IntKind.u8.wrap v)), (.pointer (some ⟨b, o + 3, none⟩))] [none, none, none, some (.sem (Instr.indexAt 22 (.slice (some ⟨b, o, none⟩) l c) (.int .i64 3)) (.pointer (some ⟨b, o + 3, none⟩)))] [0, 1] [(.slice (some ⟨b, o, none⟩) l c), (.int .u32 v)] (by kernel_rfl) hf4 (fun r w => by kernel_rfl) (fun r => by kernel_rfl) (Drawn.refl _) ⟨fun w _ => idxB_run b o l c 3 _ rfl (by omega) w, trivial⟩ rfl rfl (x := .tmp 25) (y := .tmp 24) rfl (b := b) (k := o + 3) (kd := .u8) (n := (IntKind.u8.wrap v)) (fun r => by kernel_rfl) (fun r => by kernel_rfl) Try.size8 (fun w' hw' => At.there1 (hw'.at_ at4) (o + 3) (by simp; omega)) fun f5 w5' hw5 hf5 => ?_
  have at5 := At.set_ (hw5.at_ at4) (o + 3) (.int .u8 (IntKind.u8.wrap v))
  have gr5 : w0.grownBy (w5'.setCell ⟨b, o + 3, none⟩ (.int .u8 (IntKind.u8.wrap v))) (some b) := grown_trans' (hw5.grown gr4) (grown_set _ _ _ _)
  obtain ⟨w5, hwe5⟩ : ∃ z, z = w5'.setCell ⟨b, o + 3, none⟩ (.int .u8 (IntKind.u8.wrap v)) := ⟨_, rfl⟩
  rw [← hwe5] at at5 gr5 ⊢
  refine bodyPost_end (results_none rfl _ _ _) hf5.2.1 ⟨rfl, ?_, gr5⟩
  have e : (be4B v).map B8 = [.int .u8 (IntKind.u8.wrap (v.fdiv (2 ^ 24))), .int .u8 (IntKind.u8.wrap (v.fdiv (2 ^ 16))), .int .u8 (IntKind.u8.wrap (v.fdiv (2 ^ 8))), .int .u8 (IntKind.u8.wrap v)] := by
    unfold be4B
    simp only [List.map_cons, List.map_nil, B8_by8]
  rw [e, ← splice_set _ _ _ _ (by omega), ← splice_set _ _ _ _ (by simp; omega), ← splice_set _ _ _ _ (by simp; omega), ← splice_set _ _ _ _ (by simp; omega), splice_nil]
  exact at5
set_option maxRecDepth 1000000 in
set_option maxHeartbeats 4000000 in
theorem le8_put (b o l c : Nat) (v : Int) (t : TypeId) (cs : List Value) (w0 : World) (hg : At w0 b t cs) (hl : 8 ≤ l) (hfit : o + 8 ≤ cs.length) :
    Calls Try.prog 37 #[(.slice (some ⟨b, o, none⟩) l c), .int .u64 v] w0 (PutOk b t (splice cs o ((le8B v).map B8)) w0) := by
  have hm : Try.prog.follows .mixedOrders = true := by kernel_rfl
  obtain ⟨x, hxe⟩ : ∃ x, w0.cell? ⟨b, o + 7, none⟩ = some x := ⟨_, hg.cell (o + 7) (by omega)⟩
  have hx := hxe
  go_enter Try.func37, Try.ntmps37
  refine fr_start 20 [(0, (.slice (some ⟨b, o, none⟩) l c)), (1, .int .u64 v)] ⟨by kernel_rfl, rfl, List.forall_mem_cons.2 ⟨by kernel_rfl, List.forall_mem_cons.2 ⟨by kernel_rfl, fun _ h => by cases h⟩⟩⟩ fun fr0 hfr0 => ?_
  refine seq_quiet (Drawn w0) 20 _ [(.slice (some ⟨b, o, none⟩) l c), (.pointer (some ⟨b, o + 7, none⟩)), x] [none, some (.sem (Instr.indexAt 22 (.slice (some ⟨b, o, none⟩) l c) (.int .i64 7)) (.pointer (some ⟨b, o + 7, none⟩))), some (.sem (Instr.loadAt 5 (.pointer (some ⟨b, o + 7, none⟩))) x)] [0, 1] [(.slice (some ⟨b, o, none⟩) l c), (.int .u64 v)] hm (by kernel_rfl) (by kernel_rfl) hfr0 (fun r w => by kernel_rfl) (fun r => by kernel_rfl) (Drawn.refl w0) (fun _ => (Drawn.refl w0).drew) ⟨fun w _ => idxB_run b o l c 7 _ rfl (by omega) w, load_item hx Try.underlying5 rfl, trivial⟩ fun f1 w1 hw1 hf1 => ?_
  refine seq_quiet (Drawn w1) 20 _ [(.int .i64 0)] [none] [0, 1, 4] [(.slice (some ⟨b, o, none⟩) l c), (.int .u64 v), (.int .i64 0)] hm (by kernel_rfl) (by kernel_rfl) hf1 (fun r w => by kernel_rfl) (fun r => by kernel_rfl) (Drawn.refl w1) (fun _ => (Drawn.refl w1).drew) trivial fun f2 w2 hw2 hf2 => ?_
  have at2 := hw2.at_ (hw1.at_ hg)
  have gr2 : w0.grownBy w2 (some b) := hw2.grown (hw1.grown (grown_self _ _))
  refine wp_block (wp_loop (fun a w => ∃ k : Nat, k ≤ 8 ∧ At w b t (splice cs o (((le8B v).take k).map B8)) ∧ w0.grownBy w (some b) ∧ Fr 20 [(0, (.slice (some ⟨b, o, none⟩) l c)), (1, .int .u64 v), (4, .int .i64 (k : Int))] a) (MeasS 4 8) ⟨0, by omega, by rw [List.take_zero]; simp only [List.map_nil]; rw [splice_nil]; exact at2, gr2, hf2⟩ ?_)
  clear hf2 hf1 hfr0 at2 gr2 hw1 hw2 hx hxe
  rintro fr w ⟨k, hk, hat, hgr, hfr⟩
  refine wp_seq ?_
  refine seq_quiet (Drawn w) 20 _ [(.int .i64 (k : Int)), (.bool (decide ((k : Int) < 8)))] [none, none] [0, 1, 4, 9] [(.slice (some ⟨b, o, none⟩) l c), (.int .u64 v), (.int .i64 (k : Int)), (.bool (decide ((k : Int) < 8)))] hm (by kernel_rfl) (by kernel_rfl) hfr (fun r w => by kernel_rfl) (fun r => by kernel_rfl) (Drawn.refl w) (fun _ => (Drawn.refl w).drew) trivial fun f3 w3 hw3 hf3 => ?_
  have at3 := hw3.at_ hat
  have gr3 := hw3.grown hgr
  by_cases hlt : k < 8
  · refine wp_cond_true ((hf3.nth 3 rfl).trans (by rw [decide_eq_true (show (k : Int) < 8 by omega)])) (wp_skip ?_)
    show Code.wp _ _ _ _ _
    have h8 : k = 0 ∨ k = 1 ∨ k = 2 ∨ k = 3 ∨ k = 4 ∨ k = 5 ∨ k = 6 ∨ k = 7 := by omega
    rcases h8 with rfl | rfl | rfl | rfl | rfl | rfl | rfl | rfl
    · refine wp_seq (wp_block (reg_store (Drawn w3) _ rfl 20 _ [(.slice (some ⟨b, o, none⟩) l c), (.int .i64 ((0 : Nat) : Int)), (.int .u64 v), (.int .i64 ((0 : Nat) : Int)), (.int .i64 (IntKind.i64.wrap (8 * ((0 : Nat) : Int)))), (.int .u64 (v.fdiv (2 ^ 0))), (.int .u8 (IntKind.u8.wrap (v.fdiv (2 ^ 0)))), (.pointer (some ⟨b, o, none⟩))] [none, none, none, none, none, none, none, some (.sem (Instr.indexAt 22 (.slice (some ⟨b, o, none⟩) l c) (.int .i64 ((0 : Nat) : Int))) (.pointer (some ⟨b, o, none⟩)))] [0, 1, 4] [(.slice (some ⟨b, o, none⟩) l c), (.int .u64 v), (.int .i64 ((0 : Nat) : Int))] (by kernel_rfl) hf3 (fun r w => by kernel_rfl) (fun r => by kernel_rfl) (Drawn.refl _) ⟨fun w _ => idxB_run b o l c 0 _ rfl (by omega) w, trivial⟩ rfl rfl (x := .tmp 19) (y := .tmp 18) rfl (b := b) (k := o + 0) (kd := .u8) (n := (IntKind.u8.wrap (v.fdiv (2 ^ 0)))) (fun r => by kernel_rfl) (fun r => by kernel_rfl) Try.size8 (fun w' hw' => At.there1 (hw'.at_ at3) (o + 0) (by rw [length_splice _ _ _ (by simp [le8B]; omega)]; omega)) fun f4 w4' hw4 hf4 => ?_))
      have at4 := At.set_ (hw4.at_ at3) (o + 0) (.int .u8 (IntKind.u8.wrap (v.fdiv (2 ^ 0))))
      have gr4 : w0.grownBy (w4'.setCell ⟨b, o + 0, none⟩ (.int .u8 (IntKind.u8.wrap (v.fdiv (2 ^ 0))))) (some b) := grown_trans' (hw4.grown gr3) (grown_set _ _ _ _)
      obtain ⟨w4, hwe⟩ : ∃ z, z = w4'.setCell ⟨b, o + 0, none⟩ (.int .u8 (IntKind.u8.wrap (v.fdiv (2 ^ 0)))) := ⟨_, rfl⟩
      rw [← hwe] at at4 gr4 ⊢
      show Code.wp _ _ _ _ _
      refine last_quiet (Drawn w4) 20 _ [(.int .i64 ((0 : Nat) : Int)), (.int .i64 ((1 : Nat) : Int)), (.int .i64 ((1 : Nat) : Int))] [none, none, none] [0, 1, 4] [(.slice (some ⟨b, o, none⟩) l c), (.int .u64 v), (.int .i64 ((1 : Nat) : Int))] hm (by kernel_rfl) (by kernel_rfl) hf4 (fun r w => by kernel_rfl) (fun r => by kernel_rfl) (Drawn.refl w4) (fun _ => (Drawn.refl w4).drew) trivial fun f5 w5 hw5 hf5 => ?_
      show _ ∧ _
      refine ⟨⟨1, by omega, ?_, hw5.grown gr4, hf5⟩, ?_⟩
      · have at5 := hw5.at_ at4
        rw [splice_snoc cs o ((le8B v).take 0) (le8B v) 0 (by simp [le8B]) (by simp [le8B]; omega)]
        rw [show ((le8B v).getD 0 0) = by8 (v.fdiv (2 ^ 0)) from rfl, B8_by8]
        exact at5
      · unfold MeasS
        rw [show f5.tmps.getD 4 undef = _ from hf5.nth 2 rfl, show fr.tmps.getD 4 undef = _ from hfr.nth 2 rfl]
        simp only [intOf]
        omega
    · refine wp_seq (wp_block (reg_store (Drawn w3) _ rfl 20 _ [(.slice (some ⟨b, o, none⟩) l c), (.int .i64 ((1 : Nat) : Int)), (.int .u64 v), (.int .i64 ((1 : Nat) : Int)), (.int .i64 (IntKind.i64.wrap (8 * ((1 : Nat) : Int)))), (.int .u64 (v.fdiv (2 ^ 8))), (.int .u8 (IntKind.u8.wrap (v.fdiv (2 ^ 8)))), (.pointer (some ⟨b, o + 1, none⟩))] [none, none, none, none, none, none, none, some (.sem (Instr.indexAt 22 (.slice (some ⟨b, o, none⟩) l c) (.int .i64 ((1 : Nat) : Int))) (.pointer (some ⟨b, o + 1, none⟩)))] [0, 1, 4] [(.slice (some ⟨b, o, none⟩) l c), (.int .u64 v), (.int .i64 ((1 : Nat) : Int))] (by kernel_rfl) hf3 (fun r w => by kernel_rfl) (fun r => by kernel_rfl) (Drawn.refl _) ⟨fun w _ => idxB_run b o l c 1 _ rfl (by omega) w, trivial⟩ rfl rfl (x := .tmp 19) (y := .tmp 18) rfl (b := b) (k := o + 1) (kd := .u8) (n := (IntKind.u8.wrap (v.fdiv (2 ^ 8)))) (fun r => by kernel_rfl) (fun r => by kernel_rfl) Try.size8 (fun w' hw' => At.there1 (hw'.at_ at3) (o + 1) (by rw [length_splice _ _ _ (by simp [le8B]; omega)]; omega)) fun f4 w4' hw4 hf4 => ?_))
      have at4 := At.set_ (hw4.at_ at3) (o + 1) (.int .u8 (IntKind.u8.wrap (v.fdiv (2 ^ 8))))
      have gr4 : w0.grownBy (w4'.setCell ⟨b, o + 1, none⟩ (.int .u8 (IntKind.u8.wrap (v.fdiv (2 ^ 8))))) (some b) := grown_trans' (hw4.grown gr3) (grown_set _ _ _ _)
      obtain ⟨w4, hwe⟩ : ∃ z, z = w4'.setCell ⟨b, o + 1, none⟩ (.int .u8 (IntKind.u8.wrap (v.fdiv (2 ^ 8)))) := ⟨_, rfl⟩
      rw [← hwe] at at4 gr4 ⊢
      show Code.wp _ _ _ _ _
      refine last_quiet (Drawn w4) 20 _ [(.int .i64 ((1 : Nat) : Int)), (.int .i64 ((2 : Nat) : Int)), (.int .i64 ((2 : Nat) : Int))] [none, none, none] [0, 1, 4] [(.slice (some ⟨b, o, none⟩) l c), (.int .u64 v), (.int .i64 ((2 : Nat) : Int))] hm (by kernel_rfl) (by kernel_rfl) hf4 (fun r w => by kernel_rfl) (fun r => by kernel_rfl) (Drawn.refl w4) (fun _ => (Drawn.refl w4).drew) trivial fun f5 w5 hw5 hf5 => ?_
      show _ ∧ _
      refine ⟨⟨2, by omega, ?_, hw5.grown gr4, hf5⟩, ?_⟩
      · have at5 := hw5.at_ at4
        rw [splice_snoc cs o ((le8B v).take 1) (le8B v) 1 (by simp [le8B]) (by simp [le8B]; omega)]
        rw [show ((le8B v).getD 1 0) = by8 (v.fdiv (2 ^ 8)) from rfl, B8_by8]
        exact at5
      · unfold MeasS
        rw [show f5.tmps.getD 4 undef = _ from hf5.nth 2 rfl, show fr.tmps.getD 4 undef = _ from hfr.nth 2 rfl]
        simp only [intOf]
        omega
    · refine wp_seq (wp_block (reg_store (Drawn w3) _ rfl 20 _ [(.slice (some ⟨b, o, none⟩) l c), (.int .i64 ((2 : Nat) : Int)), (.int .u64 v), (.int .i64 ((2 : Nat) : Int)), (.int .i64 (IntKind.i64.wrap (8 * ((2 : Nat) : Int)))), (.int .u64 (v.fdiv (2 ^ 16))), (.int .u8 (IntKind.u8.wrap (v.fdiv (2 ^ 16)))), (.pointer (some ⟨b, o + 2, none⟩))] [none, none, none, none, none, none, none, some (.sem (Instr.indexAt 22 (.slice (some ⟨b, o, none⟩) l c) (.int .i64 ((2 : Nat) : Int))) (.pointer (some ⟨b, o + 2, none⟩)))] [0, 1, 4] [(.slice (some ⟨b, o, none⟩) l c), (.int .u64 v), (.int .i64 ((2 : Nat) : Int))] (by kernel_rfl) hf3 (fun r w => by kernel_rfl) (fun r => by kernel_rfl) (Drawn.refl _) ⟨fun w _ => idxB_run b o l c 2 _ rfl (by omega) w, trivial⟩ rfl rfl (x := .tmp 19) (y := .tmp 18) rfl (b := b) (k := o + 2) (kd := .u8) (n := (IntKind.u8.wrap (v.fdiv (2 ^ 16)))) (fun r => by kernel_rfl) (fun r => by kernel_rfl) Try.size8 (fun w' hw' => At.there1 (hw'.at_ at3) (o + 2) (by rw [length_splice _ _ _ (by simp [le8B]; omega)]; omega)) fun f4 w4' hw4 hf4 => ?_))
      have at4 := At.set_ (hw4.at_ at3) (o + 2) (.int .u8 (IntKind.u8.wrap (v.fdiv (2 ^ 16))))
      have gr4 : w0.grownBy (w4'.setCell ⟨b, o + 2, none⟩ (.int .u8 (IntKind.u8.wrap (v.fdiv (2 ^ 16))))) (some b) := grown_trans' (hw4.grown gr3) (grown_set _ _ _ _)
      obtain ⟨w4, hwe⟩ : ∃ z, z = w4'.setCell ⟨b, o + 2, none⟩ (.int .u8 (IntKind.u8.wrap (v.fdiv (2 ^ 16)))) := ⟨_, rfl⟩
      rw [← hwe] at at4 gr4 ⊢
      show Code.wp _ _ _ _ _
      refine last_quiet (Drawn w4) 20 _ [(.int .i64 ((2 : Nat) : Int)), (.int .i64 ((3 : Nat) : Int)), (.int .i64 ((3 : Nat) : Int))] [none, none, none] [0, 1, 4] [(.slice (some ⟨b, o, none⟩) l c), (.int .u64 v), (.int .i64 ((3 : Nat) : Int))] hm (by kernel_rfl) (by kernel_rfl) hf4 (fun r w => by kernel_rfl) (fun r => by kernel_rfl) (Drawn.refl w4) (fun _ => (Drawn.refl w4).drew) trivial fun f5 w5 hw5 hf5 => ?_
      show _ ∧ _
      refine ⟨⟨3, by omega, ?_, hw5.grown gr4, hf5⟩, ?_⟩
      · have at5 := hw5.at_ at4
        rw [splice_snoc cs o ((le8B v).take 2) (le8B v) 2 (by simp [le8B]) (by simp [le8B]; omega)]
        rw [show ((le8B v).getD 2 0) = by8 (v.fdiv (2 ^ 16)) from rfl, B8_by8]
        exact at5
      · unfold MeasS
        rw [show f5.tmps.getD 4 undef = _ from hf5.nth 2 rfl, show fr.tmps.getD 4 undef = _ from hfr.nth 2 rfl]
        simp only [intOf]
        omega
    · refine wp_seq (wp_block (reg_store (Drawn w3) _ rfl 20 _ [(.slice (some ⟨b, o, none⟩) l c), (.int .i64 ((3 : Nat) : Int)), (.int .u64 v), (.int .i64 ((3 : Nat) : Int)), (.int .i64 (IntKind.i64.wrap (8 * ((3 : Nat) : Int)))), (.int .u64 (v.fdiv (2 ^ 24))), (.int .u8 (IntKind.u8.wrap (v.fdiv (2 ^ 24)))), (.pointer (some ⟨b, o + 3, none⟩))] [none, none, none, none, none, none, none, some (.sem (Instr.indexAt 22 (.slice (some ⟨b, o, none⟩) l c) (.int .i64 ((3 : Nat) : Int))) (.pointer (some ⟨b, o + 3, none⟩)))] [0, 1, 4] [(.slice (some ⟨b, o, none⟩) l c), (.int .u64 v), (.int .i64 ((3 : Nat) : Int))] (by kernel_rfl) hf3 (fun r w => by kernel_rfl) (fun r => by kernel_rfl) (Drawn.refl _) ⟨fun w _ => idxB_run b o l c 3 _ rfl (by omega) w, trivial⟩ rfl rfl (x := .tmp 19) (y := .tmp 18) rfl (b := b) (k := o + 3) (kd := .u8) (n := (IntKind.u8.wrap (v.fdiv (2 ^ 24)))) (fun r => by kernel_rfl) (fun r => by kernel_rfl) Try.size8 (fun w' hw' => At.there1 (hw'.at_ at3) (o + 3) (by rw [length_splice _ _ _ (by simp [le8B]; omega)]; omega)) fun f4 w4' hw4 hf4 => ?_))
      have at4 := At.set_ (hw4.at_ at3) (o + 3) (.int .u8 (IntKind.u8.wrap (v.fdiv (2 ^ 24))))
      have gr4 : w0.grownBy (w4'.setCell ⟨b, o + 3, none⟩ (.int .u8 (IntKind.u8.wrap (v.fdiv (2 ^ 24))))) (some b) := grown_trans' (hw4.grown gr3) (grown_set _ _ _ _)
      obtain ⟨w4, hwe⟩ : ∃ z, z = w4'.setCell ⟨b, o + 3, none⟩ (.int .u8 (IntKind.u8.wrap (v.fdiv (2 ^ 24)))) := ⟨_, rfl⟩
      rw [← hwe] at at4 gr4 ⊢
      show Code.wp _ _ _ _ _
      refine last_quiet (Drawn w4) 20 _ [(.int .i64 ((3 : Nat) : Int)), (.int .i64 ((4 : Nat) : Int)), (.int .i64 ((4 : Nat) : Int))] [none, none, none] [0, 1, 4] [(.slice (some ⟨b, o, none⟩) l c), (.int .u64 v), (.int .i64 ((4 : Nat) : Int))] hm (by kernel_rfl) (by kernel_rfl) hf4 (fun r w => by kernel_rfl) (fun r => by kernel_rfl) (Drawn.refl w4) (fun _ => (Drawn.refl w4).drew) trivial fun f5 w5 hw5 hf5 => ?_
      show _ ∧ _
      refine ⟨⟨4, by omega, ?_, hw5.grown gr4, hf5⟩, ?_⟩
      · have at5 := hw5.at_ at4
        rw [splice_snoc cs o ((le8B v).take 3) (le8B v) 3 (by simp [le8B]) (by simp [le8B]; omega)]
        rw [show ((le8B v).getD 3 0) = by8 (v.fdiv (2 ^ 24)) from rfl, B8_by8]
        exact at5
      · unfold MeasS
        rw [show f5.tmps.getD 4 undef = _ from hf5.nth 2 rfl, show fr.tmps.getD 4 undef = _ from hfr.nth 2 rfl]
        simp only [intOf]
        omega
    · refine wp_seq (wp_block (reg_store (Drawn w3) _ rfl 20 _ [(.slice (some ⟨b, o, none⟩) l c), (.int .i64 ((4 : Nat) : Int)), (.int .u64 v), (.int .i64 ((4 : Nat) : Int)), (.int .i64 (IntKind.i64.wrap (8 * ((4 : Nat) : Int)))), (.int .u64 (v.fdiv (2 ^ 32))), (.int .u8 (IntKind.u8.wrap (v.fdiv (2 ^ 32)))), (.pointer (some ⟨b, o + 4, none⟩))] [none, none, none, none, none, none, none, some (.sem (Instr.indexAt 22 (.slice (some ⟨b, o, none⟩) l c) (.int .i64 ((4 : Nat) : Int))) (.pointer (some ⟨b, o + 4, none⟩)))] [0, 1, 4] [(.slice (some ⟨b, o, none⟩) l c), (.int .u64 v), (.int .i64 ((4 : Nat) : Int))] (by kernel_rfl) hf3 (fun r w => by kernel_rfl) (fun r => by kernel_rfl) (Drawn.refl _) ⟨fun w _ => idxB_run b o l c 4 _ rfl (by omega) w, trivial⟩ rfl rfl (x := .tmp 19) (y := .tmp 18) rfl (b := b) (k := o + 4) (kd := .u8) (n := (IntKind.u8.wrap (v.fdiv (2 ^ 32)))) (fun r => by kernel_rfl) (fun r => by kernel_rfl) Try.size8 (fun w' hw' => At.there1 (hw'.at_ at3) (o + 4) (by rw [length_splice _ _ _ (by simp [le8B]; omega)]; omega)) fun f4 w4' hw4 hf4 => ?_))
      have at4 := At.set_ (hw4.at_ at3) (o + 4) (.int .u8 (IntKind.u8.wrap (v.fdiv (2 ^ 32))))
      have gr4 : w0.grownBy (w4'.setCell ⟨b, o + 4, none⟩ (.int .u8 (IntKind.u8.wrap (v.fdiv (2 ^ 32))))) (some b) := grown_trans' (hw4.grown gr3) (grown_set _ _ _ _)
      obtain ⟨w4, hwe⟩ : ∃ z, z = w4'.setCell ⟨b, o + 4, none⟩ (.int .u8 (IntKind.u8.wrap (v.fdiv (2 ^ 32)))) := ⟨_, rfl⟩
      rw [← hwe] at at4 gr4 ⊢
      show Code.wp _ _ _ _ _
      refine last_quiet (Drawn w4) 20 _ [(.int .i64 ((4 : Nat) : Int)), (.int .i64 ((5 : Nat) : Int)), (.int .i64 ((5 : Nat) : Int))] [none, none, none] [0, 1, 4] [(.slice (some ⟨b, o, none⟩) l c), (.int .u64 v), (.int .i64 ((5 : Nat) : Int))] hm (by kernel_rfl) (by kernel_rfl) hf4 (fun r w => by kernel_rfl) (fun r => by kernel_rfl) (Drawn.refl w4) (fun _ => (Drawn.refl w4).drew) trivial fun f5 w5 hw5 hf5 => ?_
      show _ ∧ _
      refine ⟨⟨5, by omega, ?_, hw5.grown gr4, hf5⟩, ?_⟩
      · have at5 := hw5.at_ at4
        rw [splice_snoc cs o ((le8B v).take 4) (le8B v) 4 (by simp [le8B]) (by simp [le8B]; omega)]
        rw [show ((le8B v).getD 4 0) = by8 (v.fdiv (2 ^ 32)) from rfl, B8_by8]
        exact at5
      · unfold MeasS
        rw [show f5.tmps.getD 4 undef = _ from hf5.nth 2 rfl, show fr.tmps.getD 4 undef = _ from hfr.nth 2 rfl]
        simp only [intOf]
        omega
    · refine wp_seq (wp_block (reg_store (Drawn w3) _ rfl 20 _ [(.slice (some ⟨b, o, none⟩) l c), (.int .i64 ((5 : Nat) : Int)), (.int .u64 v), (.int .i64 ((5 : Nat) : Int)), (.int .i64 (IntKind.i64.wrap (8 * ((5 : Nat) : Int)))), (.int .u64 (v.fdiv (2 ^ 40))), (.int .u8 (IntKind.u8.wrap (v.fdiv (2 ^ 40)))), (.pointer (some ⟨b, o + 5, none⟩))] [none, none, none, none, none, none, none, some (.sem (Instr.indexAt 22 (.slice (some ⟨b, o, none⟩) l c) (.int .i64 ((5 : Nat) : Int))) (.pointer (some ⟨b, o + 5, none⟩)))] [0, 1, 4] [(.slice (some ⟨b, o, none⟩) l c), (.int .u64 v), (.int .i64 ((5 : Nat) : Int))] (by kernel_rfl) hf3 (fun r w => by kernel_rfl) (fun r => by kernel_rfl) (Drawn.refl _) ⟨fun w _ => idxB_run b o l c 5 _ rfl (by omega) w, trivial⟩ rfl rfl (x := .tmp 19) (y := .tmp 18) rfl (b := b) (k := o + 5) (kd := .u8) (n := (IntKind.u8.wrap (v.fdiv (2 ^ 40)))) (fun r => by kernel_rfl) (fun r => by kernel_rfl) Try.size8 (fun w' hw' => At.there1 (hw'.at_ at3) (o + 5) (by rw [length_splice _ _ _ (by simp [le8B]; omega)]; omega)) fun f4 w4' hw4 hf4 => ?_))
      have at4 := At.set_ (hw4.at_ at3) (o + 5) (.int .u8 (IntKind.u8.wrap (v.fdiv (2 ^ 40))))
      have gr4 : w0.grownBy (w4'.setCell ⟨b, o + 5, none⟩ (.int .u8 (IntKind.u8.wrap (v.fdiv (2 ^ 40))))) (some b) := grown_trans' (hw4.grown gr3) (grown_set _ _ _ _)
      obtain ⟨w4, hwe⟩ : ∃ z, z = w4'.setCell ⟨b, o + 5, none⟩ (.int .u8 (IntKind.u8.wrap (v.fdiv (2 ^ 40)))) := ⟨_, rfl⟩
      rw [← hwe] at at4 gr4 ⊢
      show Code.wp _ _ _ _ _
      refine last_quiet (Drawn w4) 20 _ [(.int .i64 ((5 : Nat) : Int)), (.int .i64 ((6 : Nat) : Int)), (.int .i64 ((6 : Nat) : Int))] [none, none, none] [0, 1, 4] [(.slice (some ⟨b, o, none⟩) l c), (.int .u64 v), (.int .i64 ((6 : Nat) : Int))] hm (by kernel_rfl) (by kernel_rfl) hf4 (fun r w => by kernel_rfl) (fun r => by kernel_rfl) (Drawn.refl w4) (fun _ => (Drawn.refl w4).drew) trivial fun f5 w5 hw5 hf5 => ?_
      show _ ∧ _
      refine ⟨⟨6, by omega, ?_, hw5.grown gr4, hf5⟩, ?_⟩
      · have at5 := hw5.at_ at4
        rw [splice_snoc cs o ((le8B v).take 5) (le8B v) 5 (by simp [le8B]) (by simp [le8B]; omega)]
        rw [show ((le8B v).getD 5 0) = by8 (v.fdiv (2 ^ 40)) from rfl, B8_by8]
        exact at5
      · unfold MeasS
        rw [show f5.tmps.getD 4 undef = _ from hf5.nth 2 rfl, show fr.tmps.getD 4 undef = _ from hfr.nth 2 rfl]
        simp only [intOf]
        omega
    · refine wp_seq (wp_block (reg_store (Drawn w3) _ rfl 20 _ [(.slice (some ⟨b, o, none⟩) l c), (.int .i64 ((6 : Nat) : Int)), (.int .u64 v), (.int .i64 ((6 : Nat) : Int)), (.int .i64 (IntKind.i64.wrap (8 * ((6 : Nat) : Int)))), (.int .u64 (v.fdiv (2 ^ 48))), (.int .u8 (IntKind.u8.wrap (v.fdiv (2 ^ 48)))), (.pointer (some ⟨b, o + 6, none⟩))] [none, none, none, none, none, none, none, some (.sem (Instr.indexAt 22 (.slice (some ⟨b, o, none⟩) l c) (.int .i64 ((6 : Nat) : Int))) (.pointer (some ⟨b, o + 6, none⟩)))] [0, 1, 4] [(.slice (some ⟨b, o, none⟩) l c), (.int .u64 v), (.int .i64 ((6 : Nat) : Int))] (by kernel_rfl) hf3 (fun r w => by kernel_rfl) (fun r => by kernel_rfl) (Drawn.refl _) ⟨fun w _ => idxB_run b o l c 6 _ rfl (by omega) w, trivial⟩ rfl rfl (x := .tmp 19) (y := .tmp 18) rfl (b := b) (k := o + 6) (kd := .u8) (n := (IntKind.u8.wrap (v.fdiv (2 ^ 48)))) (fun r => by kernel_rfl) (fun r => by kernel_rfl) Try.size8 (fun w' hw' => At.there1 (hw'.at_ at3) (o + 6) (by rw [length_splice _ _ _ (by simp [le8B]; omega)]; omega)) fun f4 w4' hw4 hf4 => ?_))
      have at4 := At.set_ (hw4.at_ at3) (o + 6) (.int .u8 (IntKind.u8.wrap (v.fdiv (2 ^ 48))))
      have gr4 : w0.grownBy (w4'.setCell ⟨b, o + 6, none⟩ (.int .u8 (IntKind.u8.wrap (v.fdiv (2 ^ 48))))) (some b) := grown_trans' (hw4.grown gr3) (grown_set _ _ _ _)
      obtain ⟨w4, hwe⟩ : ∃ z, z = w4'.setCell ⟨b, o + 6, none⟩ (.int .u8 (IntKind.u8.wrap (v.fdiv (2 ^ 48)))) := ⟨_, rfl⟩
      rw [← hwe] at at4 gr4 ⊢
      show Code.wp _ _ _ _ _
      refine last_quiet (Drawn w4) 20 _ [(.int .i64 ((6 : Nat) : Int)), (.int .i64 ((7 : Nat) : Int)), (.int .i64 ((7 : Nat) : Int))] [none, none, none] [0, 1, 4] [(.slice (some ⟨b, o, none⟩) l c), (.int .u64 v), (.int .i64 ((7 : Nat) : Int))] hm (by kernel_rfl) (by kernel_rfl) hf4 (fun r w => by kernel_rfl) (fun r => by kernel_rfl) (Drawn.refl w4) (fun _ => (Drawn.refl w4).drew) trivial fun f5 w5 hw5 hf5 => ?_
      show _ ∧ _
      refine ⟨⟨7, by omega, ?_, hw5.grown gr4, hf5⟩, ?_⟩
      · have at5 := hw5.at_ at4
        rw [splice_snoc cs o ((le8B v).take 6) (le8B v) 6 (by simp [le8B]) (by simp [le8B]; omega)]
        rw [show ((le8B v).getD 6 0) = by8 (v.fdiv (2 ^ 48)) from rfl, B8_by8]
        exact at5
      · unfold MeasS
        rw [show f5.tmps.getD 4 undef = _ from hf5.nth 2 rfl, show fr.tmps.getD 4 undef = _ from hfr.nth 2 rfl]
        simp only [intOf]
        omega
    · refine wp_seq (wp_block (reg_store (Drawn w3) _ rfl 20 _ [(.slice (some ⟨b, o, none⟩) l c), (.int .i64 ((7 : Nat) : Int)), (.int .u64 v), (.int .i64 ((7 : Nat) : Int)), (.int .i64 (IntKind.i64.wrap (8 * ((7 : Nat) : Int)))), (.int .u64 (v.fdiv (2 ^ 56))), (.int .u8 (IntKind.u8.wrap (v.fdiv (2 ^ 56)))), (.pointer (some ⟨b, o + 7, none⟩))] [none, none, none, none, none, none, none, some (.sem (Instr.indexAt 22 (.slice (some ⟨b, o, none⟩) l c) (.int .i64 ((7 : Nat) : Int))) (.pointer (some ⟨b, o + 7, none⟩)))] [0, 1, 4] [(.slice (some ⟨b, o, none⟩) l c), (.int .u64 v), (.int .i64 ((7 : Nat) : Int))] (by kernel_rfl) hf3 (fun r w => by kernel_rfl) (fun r => by kernel_rfl) (Drawn.refl _) ⟨fun w _ => idxB_run b o l c 7 _ rfl (by omega) w, trivial⟩ rfl rfl (x := .tmp 19) (y := .tmp 18) rfl (b := b) (k := o + 7) (kd := .u8) (n := (IntKind.u8.wrap (v.fdiv (2 ^ 56)))) (fun r => by kernel_rfl) (fun r => by kernel_rfl) Try.size8 (fun w' hw' => At.there1 (hw'.at_ at3) (o + 7) (by rw [length_splice _ _ _ (by simp [le8B]; omega)]; omega)) fun f4 w4' hw4 hf4 => ?_))
      have at4 := At.set_ (hw4.at_ at3) (o + 7) (.int .u8 (IntKind.u8.wrap (v.fdiv (2 ^ 56))))
      have gr4 : w0.grownBy (w4'.setCell ⟨b, o + 7, none⟩ (.int .u8 (IntKind.u8.wrap (v.fdiv (2 ^ 56))))) (some b) := grown_trans' (hw4.grown gr3) (grown_set _ _ _ _)
      obtain ⟨w4, hwe⟩ : ∃ z, z = w4'.setCell ⟨b, o + 7, none⟩ (.int .u8 (IntKind.u8.wrap (v.fdiv (2 ^ 56)))) := ⟨_, rfl⟩
      rw [← hwe] at at4 gr4 ⊢
      show Code.wp _ _ _ _ _
      refine last_quiet (Drawn w4) 20 _ [(.int .i64 ((7 : Nat) : Int)), (.int .i64 ((8 : Nat) : Int)), (.int .i64 ((8 : Nat) : Int))] [none, none, none] [0, 1, 4] [(.slice (some ⟨b, o, none⟩) l c), (.int .u64 v), (.int .i64 ((8 : Nat) : Int))] hm (by kernel_rfl) (by kernel_rfl) hf4 (fun r w => by kernel_rfl) (fun r => by kernel_rfl) (Drawn.refl w4) (fun _ => (Drawn.refl w4).drew) trivial fun f5 w5 hw5 hf5 => ?_
      show _ ∧ _
      refine ⟨⟨8, by omega, ?_, hw5.grown gr4, hf5⟩, ?_⟩
      · have at5 := hw5.at_ at4
        rw [splice_snoc cs o ((le8B v).take 7) (le8B v) 7 (by simp [le8B]) (by simp [le8B]; omega)]
        rw [show ((le8B v).getD 7 0) = by8 (v.fdiv (2 ^ 56)) from rfl, B8_by8]
        exact at5
      · unfold MeasS
        rw [show f5.tmps.getD 4 undef = _ from hf5.nth 2 rfl, show fr.tmps.getD 4 undef = _ from hfr.nth 2 rfl]
        simp only [intOf]
        omega
  · refine wp_cond_false ((hf3.nth 3 rfl).trans (by rw [decide_eq_false (show ¬ (k : Int) < 8 by omega)])) (wp_exit ?_)
    obtain rfl : k = 8 := by omega
    refine bodyPost_end (results_none rfl _ _ _) hf3.2.1 ⟨rfl, ?_, gr3⟩
    rw [show (le8B v).take 8 = le8B v from rfl] at at3
    exact at3
set_option maxRecDepth 1000000 in
set_option maxHeartbeats 4000000 in
theorem be8_put (b o l c : Nat) (v : Int) (t : TypeId) (cs : List Value) (w0 : World) (hg : At w0 b t cs) (hl : 8 ≤ l) (hfit : o + 8 ≤ cs.length) :
    Calls Try.prog 40 #[(.slice (some ⟨b, o, none⟩) l c), .int .u64 v] w0 (PutOk b t (splice cs o ((be8B v).map B8)) w0) := by
  have hm : Try.prog.follows .mixedOrders = true := by kernel_rfl
  obtain ⟨x, hxe⟩ : ∃ x, w0.cell? ⟨b, o + 7, none⟩ = some x := ⟨_, hg.cell (o + 7) (by omega)⟩
  have hx := hxe
  go_enter Try.func40, Try.ntmps40
  refine fr_start 21 [(0, (.slice (some ⟨b, o, none⟩) l c)), (1, .int .u64 v)] ⟨by kernel_rfl, rfl, List.forall_mem_cons.2 ⟨by kernel_rfl, List.forall_mem_cons.2 ⟨by kernel_rfl, fun _ h => by cases h⟩⟩⟩ fun fr0 hfr0 => ?_
  refine seq_quiet (Drawn w0) 21 _ [(.slice (some ⟨b, o, none⟩) l c), (.pointer (some ⟨b, o + 7, none⟩)), x] [none, some (.sem (Instr.indexAt 22 (.slice (some ⟨b, o, none⟩) l c) (.int .i64 7)) (.pointer (some ⟨b, o + 7, none⟩))), some (.sem (Instr.loadAt 5 (.pointer (some ⟨b, o + 7, none⟩))) x)] [0, 1] [(.slice (some ⟨b, o, none⟩) l c), (.int .u64 v)] hm (by kernel_rfl) (by kernel_rfl) hfr0 (fun r w => by kernel_rfl) (fun r => by kernel_rfl) (Drawn.refl w0) (fun _ => (Drawn.refl w0).drew) ⟨fun w _ => idxB_run b o l c 7 _ rfl (by omega) w, load_item hx Try.underlying5 rfl, trivial⟩ fun f1 w1 hw1 hf1 => ?_
  refine seq_quiet (Drawn w1) 21 _ [(.int .i64 0)] [none] [0, 1, 4] [(.slice (some ⟨b, o, none⟩) l c), (.int .u64 v), (.int .i64 0)] hm (by kernel_rfl) (by kernel_rfl) hf1 (fun r w => by kernel_rfl) (fun r => by kernel_rfl) (Drawn.refl w1) (fun _ => (Drawn.refl w1).drew) trivial fun f2 w2 hw2 hf2 => ?_
  have at2 := hw2.at_ (hw1.at_ hg)
  have gr2 : w0.grownBy w2 (some b) := hw2.grown (hw1.grown (grown_self _ _))
  refine wp_block (wp_loop (fun a w => ∃ k : Nat, k ≤ 8 ∧ At w b t (splice cs o (((be8B v).take k).map B8)) ∧ w0.grownBy w (some b) ∧ Fr 21 [(0, (.slice (some ⟨b, o, none⟩) l c)), (1, .int .u64 v), (4, .int .i64 (k : Int))] a) (MeasS 4 8) ⟨0, by omega, by rw [List.take_zero]; simp only [List.map_nil]; rw [splice_nil]; exact at2, gr2, hf2⟩ ?_)
  clear hf2 hf1 hfr0 at2 gr2 hw1 hw2 hx hxe
  rintro fr w ⟨k, hk, hat, hgr, hfr⟩
  refine wp_seq ?_
  refine seq_quiet (Drawn w) 21 _ [(.int .i64 (k : Int)), (.bool (decide ((k : Int) < 8)))] [none, none] [0, 1, 4, 9] [(.slice (some ⟨b, o, none⟩) l c), (.int .u64 v), (.int .i64 (k : Int)), (.bool (decide ((k : Int) < 8)))] hm (by kernel_rfl) (by kernel_rfl) hfr (fun r w => by kernel_rfl) (fun r => by kernel_rfl) (Drawn.refl w) (fun _ => (Drawn.refl w).drew) trivial fun f3 w3 hw3 hf3 => ?_
  have at3 := hw3.at_ hat
  have gr3 := hw3.grown hgr
  by_cases hlt : k < 8
  · refine wp_cond_true ((hf3.nth 3 rfl).trans (by rw [decide_eq_true (show (k : Int) < 8 by omega)])) (wp_skip ?_)
    show Code.wp _ _ _ _ _
    have h8 : k = 0 ∨ k = 1 ∨ k = 2 ∨ k = 3 ∨ k = 4 ∨ k = 5 ∨ k = 6 ∨ k = 7 := by omega
    rcases h8 with rfl | rfl | rfl | rfl | rfl | rfl | rfl | rfl
    · refine wp_seq (wp_block (reg_store (Drawn w3) _ rfl 21 _ [(.slice (some ⟨b, o, none⟩) l c), (.int .i64 ((0 : Nat) : Int)), (.int .u64 v), (.int .i64 ((0 : Nat) : Int)), (.int .i64 (IntKind.i64.wrap (8 * ((0 : Nat) : Int)))), (.int .i64 (IntKind.i64.wrap (56 - (IntKind.i64.wrap (8 * ((0 : Nat) : Int)))))), (.int .u64 (v.fdiv (2 ^ 56))), (.int .u8 (IntKind.u8.wrap (v.fdiv (2 ^ 56)))), (.pointer (some ⟨b, o, none⟩))] [none, none, none, none, none, none, none, none, some (.sem (Instr.indexAt 22 (.slice (some ⟨b, o, none⟩) l c) (.int .i64 ((0 : Nat) : Int))) (.pointer (some ⟨b, o, none⟩)))] [0, 1, 4] [(.slice (some ⟨b, o, none⟩) l c), (.int .u64 v), (.int .i64 ((0 : Nat) : Int))] (by kernel_rfl) hf3 (fun r w => by kernel_rfl) (fun r => by kernel_rfl) (Drawn.refl _) ⟨fun w _ => idxB_run b o l c 0 _ rfl (by omega) w, trivial⟩ rfl rfl (x := .tmp 20) (y := .tmp 19) rfl (b := b) (k := o + 0) (kd := .u8) (n := (IntKind.u8.wrap (v.fdiv (2 ^ 56)))) (fun r => by kernel_rfl) (fun r => by kernel_rfl) Try.size8 (fun w' hw' => At.there1 (hw'.at_ at3) (o + 0) (by rw [length_splice _ _ _ (by simp [be8B]; omega)]; omega)) fun f4 w4' hw4 hf4 => ?_))
      have at4 := At.set_ (hw4.at_ at3) (o + 0) (.int .u8 (IntKind.u8.wrap (v.fdiv (2 ^ 56))))
      have gr4 : w0.grownBy (w4'.setCell ⟨b, o + 0, none⟩ (.int .u8 (IntKind.u8.wrap (v.fdiv (2 ^ 56))))) (some b) := grown_trans' (hw4.grown gr3) (grown_set _ _ _ _)
      obtain ⟨w4, hwe⟩ : ∃ z, z = w4'.setCell ⟨b, o + 0, none⟩ (.int .u8 (IntKind.u8.wrap (v.fdiv (2 ^ 56)))) := ⟨_, rfl⟩
      rw [← hwe] at at4 gr4 ⊢
      show Code.wp _ _ _ _ _
      refine last_quiet (Drawn w4) 21 _ [(.int .i64 ((0 : Nat) : Int)), (.int .i64 ((1 : Nat) : Int)), (.int .i64 ((1 : Nat) : Int))] [none, none, none] [0, 1, 4] [(.slice (some ⟨b, o, none⟩) l c), (.int .u64 v), (.int .i64 ((1 : Nat) : Int))] hm (by kernel_rfl) (by kernel_rfl) hf4 (fun r w => by kernel_rfl) (fun r => by kernel_rfl) (Drawn.refl w4) (fun _ => (Drawn.refl w4).drew) trivial fun f5 w5 hw5 hf5 => ?_
      show _ ∧ _
      refine ⟨⟨1, by omega, ?_, hw5.grown gr4, hf5⟩, ?_⟩
      · have at5 := hw5.at_ at4
        rw [splice_snoc cs o ((be8B v).take 0) (be8B v) 0 (by simp [be8B]) (by simp [be8B]; omega)]
        rw [show ((be8B v).getD 0 0) = by8 (v.fdiv (2 ^ 56)) from rfl, B8_by8]
        exact at5
      · unfold MeasS
        rw [show f5.tmps.getD 4 undef = _ from hf5.nth 2 rfl, show fr.tmps.getD 4 undef = _ from hfr.nth 2 rfl]
        simp only [intOf]
        omega
    · refine wp_seq (wp_block (reg_store (Drawn w3) _ rfl 21 _ [(.slice (some ⟨b, o, none⟩) l c), (.int .i64 ((1 : Nat) : Int)), (.int .u64 v), (.int .i64 ((1 : Nat) : Int)), (.int .i64 (IntKind.i64.wrap (8 * ((1 : Nat) : Int)))), (.int .i64 (IntKind.i64.wrap (56 - (IntKind.i64.wrap (8 * ((1 : Nat) : Int)))))), (.int .u64 (v.fdiv (2 ^ 48))), (.int .u8 (IntKind.u8.wrap (v.fdiv (2 ^ 48)))), (.pointer (some ⟨b, o + 1, none⟩))] [none, none, none, none, none, none, none, none, some (.sem (Instr.indexAt 22 (.slice (some ⟨b, o, none⟩) l c) (.int .i64 ((1 : Nat) : Int))) (.pointer (some ⟨b, o + 1, none⟩)))] [0, 1, 4] [(.slice (some ⟨b, o, none⟩) l c), (.int .u64 v), (.int .i64 ((1 : Nat) : Int))] (by kernel_rfl) hf3 (fun r w => by kernel_rfl) (fun r => by kernel_rfl) (Drawn.refl _) ⟨fun w _ => idxB_run b o l c 1 _ rfl (by omega) w, trivial⟩ rfl rfl (x := .tmp 20) (y := .tmp 19) rfl (b := b) (k := o + 1) (kd := .u8) (n := (IntKind.u8.wrap (v.fdiv (2 ^ 48)))) (fun r => by kernel_rfl) (fun r => by kernel_rfl) Try.size8 (fun w' hw' => At.there1 (hw'.at_ at3) (o + 1) (by rw [length_splice _ _ _ (by simp [be8B]; omega)]; omega)) fun f4 w4' hw4 hf4 => ?_))
      have at4 := At.set_ (hw4.at_ at3) (o + 1) (.int .u8 (IntKind.u8.wrap (v.fdiv (2 ^ 48))))
      have gr4 : w0.grownBy (w4'.setCell ⟨b, o + 1, none⟩ (.int .u8 (IntKind.u8.wrap (v.fdiv (2 ^ 48))))) (some b) := grown_trans' (hw4.grown gr3) (grown_set _ _ _ _)
      obtain ⟨w4, hwe⟩ : ∃ z, z = w4'.setCell ⟨b, o + 1, none⟩ (.int .u8 (IntKind.u8.wrap (v.fdiv (2 ^ 48)))) := ⟨_, rfl⟩
      rw [← hwe] at at4 gr4 ⊢
      show Code.wp _ _ _ _ _
      refine last_quiet (Drawn w4) 21 _ [(.int .i64 ((1 : Nat) : Int)), (.int .i64 ((2 : Nat) : Int)), (.int .i64 ((2 : Nat) : Int))] [none, none, none] [0, 1, 4] [(.slice (some ⟨b, o, none⟩) l c), (.int .u64 v), (.int .i64 ((2 : Nat) : Int))] hm (by kernel_rfl) (by kernel_rfl) hf4 (fun r w => by kernel_rfl) (fun r => by kernel_rfl) (Drawn.refl w4) (fun _ => (Drawn.refl w4).drew) trivial fun f5 w5 hw5 hf5 => ?_
      show _ ∧ _
      refine ⟨⟨2, by omega, ?_, hw5.grown gr4, hf5⟩, ?_⟩
      · have at5 := hw5.at_ at4
        rw [splice_snoc cs o ((be8B v).take 1) (be8B v) 1 (by simp [be8B]) (by simp [be8B]; omega)]
        rw [show ((be8B v).getD 1 0) = by8 (v.fdiv (2 ^ 48)) from rfl, B8_by8]
        exact at5
      · unfold MeasS
        rw [show f5.tmps.getD 4 undef = _ from hf5.nth 2 rfl, show fr.tmps.getD 4 undef = _ from hfr.nth 2 rfl]
        simp only [intOf]
        omega
    · refine wp_seq (wp_block (reg_store (Drawn w3) _ rfl 21 _ [(.slice (some ⟨b, o, none⟩) l c), (.int .i64 ((2 : Nat) : Int)), (.int .u64 v), (.int .i64 ((2 : Nat) : Int)), (.int .i64 (IntKind.i64.wrap (8 * ((2 : Nat) : Int)))), (.int .i64 (IntKind.i64.wrap (56 - (IntKind.i64.wrap (8 * ((2 : Nat) : Int)))))), (.int .u64 (v.fdiv (2 ^ 40))), (.int .u8 (IntKind.u8.wrap (v.fdiv (2 ^ 40)))), (.pointer (some ⟨b, o + 2, none⟩))] [none, none, none, none, none, none, none, none, some (.sem (Instr.indexAt 22 (.slice (some ⟨b, o, none⟩) l c) (.int .i64 ((2 : Nat) : Int))) (.pointer (some ⟨b, o + 2, none⟩)))] [0, 1, 4] [(.slice (some ⟨b, o, none⟩) l c), (.int .u64 v), (.int .i64 ((2 : Nat) : Int))] (by kernel_rfl) hf3 (fun r w => by kernel_rfl) (fun r => by kernel_rfl) (Drawn.refl _) ⟨fun w _ => idxB_run b o l c 2 _ rfl (by omega) w, trivial⟩ rfl rfl (x := .tmp 20) (y := .tmp 19) rfl (b := b) (k := o + 2) (kd := .u8) (n := (IntKind.u8.wrap (v.fdiv (2 ^ 40)))) (fun r => by kernel_rfl) (fun r => by kernel_rfl) Try.size8 (fun w' hw' => At.there1 (hw'.at_ at3) (o + 2) (by rw [length_splice _ _ _ (by simp [be8B]; omega)]; omega)) fun f4 w4' hw4 hf4 => ?_))
      have at4 := At.set_ (hw4.at_ at3) (o + 2) (.int .u8 (IntKind.u8.wrap (v.fdiv (2 ^ 40))))
      have gr4 : w0.grownBy (w4'.setCell ⟨b, o + 2, none⟩ (.int .u8 (IntKind.u8.wrap (v.fdiv (2 ^ 40))))) (some b) := grown_trans' (hw4.grown gr3) (grown_set _ _ _ _)
      obtain ⟨w4, hwe⟩ : ∃ z, z = w4'.setCell ⟨b, o + 2, none⟩ (.int .u8 (IntKind.u8.wrap (v.fdiv (2 ^ 40)))) := ⟨_, rfl⟩
      rw [← hwe] at at4 gr4 ⊢
      show Code.wp _ _ _ _ _
      refine last_quiet (Drawn w4) 21 _ [(.int .i64 ((2 : Nat) : Int)), (.int .i64 ((3 : Nat) : Int)), (.int .i64 ((3 : Nat) : Int))] [none, none, none] [0, 1, 4] [(.slice (some ⟨b, o, none⟩) l c), (.int .u64 v), (.int .i64 ((3 : Nat) : Int))] hm (by kernel_rfl) (by kernel_rfl) hf4 (fun r w => by kernel_rfl) (fun r => by kernel_rfl) (Drawn.refl w4) (fun _ => (Drawn.refl w4).drew) trivial fun f5 w5 hw5 hf5 => ?_
      show _ ∧ _
      refine ⟨⟨3, by omega, ?_, hw5.grown gr4, hf5⟩, ?_⟩
      · have at5 := hw5.at_ at4
        rw [splice_snoc cs o ((be8B v).take 2) (be8B v) 2 (by simp [be8B]) (by simp [be8B]; omega)]
        rw [show ((be8B v).getD 2 0) = by8 (v.fdiv (2 ^ 40)) from rfl, B8_by8]
        exact at5
      · unfold MeasS
        rw [show f5.tmps.getD 4 undef = _ from hf5.nth 2 rfl, show fr.tmps.getD 4 undef = _ from hfr.nth 2 rfl]
        simp only [intOf]
        omega
    · refine wp_seq (wp_block (reg_store (Drawn w3) _ rfl 21 _ [(.slice (some ⟨b, o, none⟩) l c), (.int .i64 ((3 : Nat) : Int)), (.int .u64 v), (.int .i64 ((3 : Nat) : Int)), (.int .i64 (IntKind.i64.wrap (8 * ((3 : Nat) : Int)))), (.int .i64 (IntKind.i64.wrap (56 - (IntKind.i64.wrap (8 * ((3 : Nat) : Int)))))), (.int .u64 (v.fdiv (2 ^ 32))), (.int .u8 (IntKind.u8.wrap (v.fdiv (2 ^ 32)))), (.pointer (some ⟨b, o + 3, none⟩))] [none, none, none, none, none, none, none, none, some (.sem (Instr.indexAt 22 (.slice (some ⟨b, o, none⟩) l c) (.int .i64 ((3 : Nat) : Int))) (.pointer (some ⟨b, o + 3, none⟩)))] [0, 1, 4] [(.slice (some ⟨b, o, none⟩) l c), (.int .u64 v), (.int .i64 ((3 : Nat) : Int))] (by kernel_rfl) hf3 (fun r w => by kernel_rfl) (fun r => by kernel_rfl) (Drawn.refl _) ⟨fun w _ => idxB_run b o l c 3 _ rfl (by omega) w, trivial⟩ rfl rfl (x := .tmp 20) (y := .tmp 19) rfl (b := b) (k := o + 3) (kd := .u8) (n := (IntKind.u8.wrap (v.fdiv (2 ^ 32)))) (fun r => by kernel_rfl) (fun r => by kernel_rfl) Try.size8 (fun w' hw' => At.there1 (hw'.at_ at3) (o + 3) (by rw [length_splice _ _ _ (by simp [be8B]; omega)]; omega)) fun f4 w4' hw4 hf4 => ?_))
      have at4 := At.set_ (hw4.at_ at3) (o + 3) (.int .u8 (IntKind.u8.wrap (v.fdiv (2 ^ 32))))
      have gr4 : w0.grownBy (w4'.setCell ⟨b, o + 3, none⟩ (.int .u8 (IntKind.u8.wrap (v.fdiv (2 ^ 32))))) (some b) := grown_trans' (hw4.grown gr3) (grown_set _ _ _ _)
      obtain ⟨w4, hwe⟩ : ∃ z, z = w4'.setCell ⟨b, o + 3, none⟩ (.int .u8 (IntKind.u8.wrap (v.fdiv (2 ^ 32)))) := ⟨_, rfl⟩
      rw [← hwe] at at4 gr4 ⊢
      show Code.wp _ _ _ _ _
      refine last_quiet (Drawn w4) 21 _ [(.int .i64 ((3 : Nat) : Int)), (.int .i64 ((4 : Nat) : Int)), (.int .i64 ((4 : Nat) : Int))] [none, none, none] [0, 1, 4] [(.slice (some ⟨b, o, none⟩) l c), (.int .u64 v), (.int .i64 ((4 : Nat) : Int))] hm (by kernel_rfl) (by kernel_rfl) hf4 (fun r w => by kernel_rfl) (fun r => by kernel_rfl) (Drawn.refl w4) (fun _ => (Drawn.refl w4).drew) trivial fun f5 w5 hw5 hf5 => ?_
      show _ ∧ _
      refine ⟨⟨4, by omega, ?_, hw5.grown gr4, hf5⟩, ?_⟩
      · have at5 := hw5.at_ at4
        rw [splice_snoc cs o ((be8B v).take 3) (be8B v) 3 (by simp [be8B]) (by simp [be8B]; omega)]
        rw [show ((be8B v).getD 3 0) = by8 (v.fdiv (2 ^ 32)) from rfl, B8_by8]
        exact at5
      · unfold MeasS
        rw [show f5.tmps.getD 4 undef = _ from hf5.nth 2 rfl, show fr.tmps.getD 4 undef = _ from hfr.nth 2 rfl]
        simp only [intOf]
        omega
    · refine wp_seq (wp_block (reg_store (Drawn w3) _ rfl 21 _ [(.slice (some ⟨b, o, none⟩) l c), (.int .i64 ((4 : Nat) : Int)), (.int .u64 v), (.int .i64 ((4 : Nat) : Int)), (.int .i64 (IntKind.i64.wrap (8 * ((4 : Nat) : Int)))), (.int .i64 (IntKind.i64.wrap (56 - (IntKind.i64.wrap (8 * ((4 : Nat) : Int)))))), (.int .u64 (v.fdiv (2 ^ 24))), (.int .u8 (IntKind.u8.wrap (v.fdiv (2 ^ 24)))), (.pointer (some ⟨b, o + 4, none⟩))] [none, none, none, none, none, none, none, none, some (.sem (Instr.indexAt 22 (.slice (some ⟨b, o, none⟩) l c) (.int .i64 ((4 : Nat) : Int))) (.pointer (some ⟨b, o + 4, none⟩)))] [0, 1, 4] [(.slice (some ⟨b, o, none⟩) l c), (.int .u64 v), (.int .i64 ((4 : Nat) : Int))] (by kernel_rfl) hf3 (fun r w => by kernel_rfl) (fun r => by kernel_rfl) (Drawn.refl _) ⟨fun w _ => idxB_run b o l c 4 _ rfl (by omega) w, trivial⟩ rfl rfl (x := .tmp 20) (y := .tmp 19) rfl (b := b) (k := o + 4) (kd := .u8) (n := (IntKind.u8.wrap (v.fdiv (2 ^ 24)))) (fun r => by kernel_rfl) (fun r => by kernel_rfl) Try.size8 (fun w' hw' => At.there1 (hw'.at_ at3) (o + 4) (by rw [length_splice _ _ _ (by simp [be8B]; omega)]; omega)) fun f4 w4' hw4 hf4 => ?_))
      have at4 := At.set_ (hw4.at_ at3) (o + 4) (.int .u8 (IntKind.u8.wrap (v.fdiv (2 ^ 24))))
      have gr4 : w0.grownBy (w4'.setCell ⟨b, o + 4, none⟩ (.int .u8 (IntKind.u8.wrap (v.fdiv (2 ^ 24))))) (some b) := grown_trans' (hw4.grown gr3) (grown_set _ _ _ _)
      obtain ⟨w4, hwe⟩ : ∃ z, z = w4'.setCell ⟨b, o + 4, none⟩ (.int .u8 (IntKind.u8.wrap (v.fdiv (2 ^ 24)))) := ⟨_, rfl⟩
      rw [← hwe] at at4 gr4 ⊢
      show Code.wp _ _ _ _ _
      refine last_quiet (Drawn w4) 21 _ [(.int .i64 ((4 : Nat) : Int)), (.int .i64 ((5 : Nat) : Int)), (.int .i64 ((5 : Nat) : Int))] [none, none, none] [0, 1, 4] [(.slice (some ⟨b, o, none⟩) l c), (.int .u64 v), (.int .i64 ((5 : Nat) : Int))] hm (by kernel_rfl) (by kernel_rfl) hf4 (fun r w => by kernel_rfl) (fun r => by kernel_rfl) (Drawn.refl w4) (fun _ => (Drawn.refl w4).drew) trivial fun f5 w5 hw5 hf5 => ?_
      show _ ∧ _
      refine ⟨⟨5, by omega, ?_, hw5.grown gr4, hf5⟩, ?_⟩
      · have at5 := hw5.at_ at4
        rw [splice_snoc cs o ((be8B v).take 4) (be8B v) 4 (by simp [be8B]) (by simp [be8B]; omega)]
        rw [show ((be8B v).getD 4 0) = by8 (v.fdiv (2 ^ 24)) from rfl, B8_by8]
        exact at5
      · unfold MeasS
        rw [show f5.tmps.getD 4 undef = _ from hf5.nth 2 rfl, show fr.tmps.getD 4 undef = _ from hfr.nth 2 rfl]
        simp only [intOf]
        omega
    · refine wp_seq (wp_block (reg_store (Drawn w3) _ rfl 21 _ [(.slice (some ⟨b, o, none⟩) l c), (.int .i64 ((5 : Nat) : Int)), (.int .u64 v), (.int .i64 ((5 : Nat) : Int)), (.int .i64 (IntKind.i64.wrap (8 * ((5 : Nat) : Int)))), (.int .i64 (IntKind.i64.wrap (56 - (IntKind.i64.wrap (8 * ((5 : Nat) : Int)))))), (.int .u64 (v.fdiv (2 ^ 16))), (.int .u8 (IntKind.u8.wrap (v.fdiv (2 ^ 16)))), (.pointer (some ⟨b, o + 5, none⟩))] [none, none, none, none, none, none, none, none, some (.sem (Instr.indexAt 22 (.slice (some ⟨b, o, none⟩) l c) (.int .i64 ((5 : Nat) : Int))) (.pointer (some ⟨b, o + 5, none⟩)))] [0, 1, 4] [(.slice (some ⟨b, o, none⟩) l c), (.int .u64 v), (.int .i64 ((5 : Nat) : Int))] (by kernel_rfl) hf3 (fun r w => by kernel_rfl) (fun r => by kernel_rfl) (Drawn.refl _) ⟨fun w _ => idxB_run b o l c 5 _ rfl (by omega) w, trivial⟩ rfl rfl (x := .tmp 20) (y := .tmp 19) rfl (b := b) (k := o + 5) (kd := .u8) (n := (IntKind.u8.wrap (v.fdiv (2 ^ 16)))) (fun r => by kernel_rfl) (fun r => by kernel_rfl) Try.size8 (fun w' hw' => At.there1 (hw'.at_ at3) (o + 5) (by rw [length_splice _ _ _ (by simp [be8B]; omega)]; omega)) fun f4 w4' hw4 hf4 => ?_))
      have at4 := At.set_ (hw4.at_ at3) (o + 5) (.int .u8 (IntKind.u8.wrap (v.fdiv (2 ^ 16))))
      have gr4 : w0.grownBy (w4'.setCell ⟨b, o + 5, none⟩ (.int .u8 (IntKind.u8.wrap (v.fdiv (2 ^ 16))))) (some b) := grown_trans' (hw4.grown gr3) (grown_set _ _ _ _)
      obtain ⟨w4, hwe⟩ : ∃ z, z = w4'.setCell ⟨b, o + 5, none⟩ (.int .u8 (IntKind.u8.wrap (v.fdiv (2 ^ 16)))) := ⟨_, rfl⟩
      rw [← hwe] at at4 gr4 ⊢
      show Code.wp _ _ _ _ _
      refine last_quiet (Drawn w4) 21 _ [(.int .i64 ((5 : Nat) : Int)), (.int .i64 ((6 : Nat) : Int)), (.int .i64 ((6 : Nat) : Int))] [none, none, none] [0, 1, 4] [(.slice (some ⟨b, o, none⟩) l c), (.int .u64 v), (.int .i64 ((6 : Nat) : Int))] hm (by kernel_rfl) (by kernel_rfl) hf4 (fun r w => by kernel_rfl) (fun r => by kernel_rfl) (Drawn.refl w4) (fun _ => (Drawn.refl w4).drew) trivial fun f5 w5 hw5 hf5 => ?_
      show _ ∧ _
      refine ⟨⟨6, by omega, ?_, hw5.grown gr4, hf5⟩, ?_⟩
      · have at5 := hw5.at_ at4
        rw [splice_snoc cs o ((be8B v).take 5) (be8B v) 5 (by simp [be8B]) (by simp [be8B]; omega)]
        rw [show ((be8B v).getD 5 0) = by8 (v.fdiv (2 ^ 16)) from rfl, B8_by8]
        exact at5
      · unfold MeasS
        rw [show f5.tmps.getD 4 undef = _ from hf5.nth 2 rfl, show fr.tmps.getD 4 undef = _ from hfr.nth 2 rfl]
        simp only [intOf]
        omega
    · refine wp_seq (wp_block (reg_store (Drawn w3) _ rfl 21 _ [(.slice (some ⟨b, o, none⟩) l c), (.int .i64 ((6 : Nat) : Int)), (.int .u64 v), (.int .i64 ((6 : Nat) : Int)), (.int .i64 (IntKind.i64.wrap (8 * ((6 : Nat) : Int)))), (.int .i64 (IntKind.i64.wrap (56 - (IntKind.i64.wrap (8 * ((6 : Nat) : Int)))))), (.int .u64 (v.fdiv (2 ^ 8))), (.int .u8 (IntKind.u8.wrap (v.fdiv (2 ^ 8)))), (.pointer (some ⟨b, o + 6, none⟩))] [none, none, none, none, none, none, none, none, some (.sem (Instr.indexAt 22 (.slice (some ⟨b, o, none⟩) l c) (.int .i64 ((6 : Nat) : Int))) (.pointer (some ⟨b, o + 6, none⟩)))] [0, 1, 4] [(.slice (some ⟨b, o, none⟩) l c), (.int .u64 v), (.int .i64 ((6 : Nat) : Int))] (by kernel_rfl) hf3 (fun r w => by kernel_rfl) (fun r => by kernel_rfl) (Drawn.refl _) ⟨fun w _ => idxB_run b o l c 6 _ rfl (by omega) w, trivial⟩ rfl rfl (x := .tmp 20) (y := .tmp 19) rfl (b := b) (k := o + 6) (kd := .u8) (n := (IntKind.u8.wrap (v.fdiv (2 ^ 8)))) (fun r => by kernel_rfl) (fun r => by kernel_rfl) Try.size8 (fun w' hw' => At.there1 (hw'.at_ at3) (o + 6) (by rw [length_splice _ _ _ (by simp [be8B]; omega)]; omega)) fun f4 w4' hw4 hf4 => ?_))
      have at4 := At.set_ (hw4.at_ at3) (o + 6) (.int .u8 (IntKind.u8.wrap (v.fdiv (2 ^ 8))))
      have gr4 : w0.grownBy (w4'.setCell ⟨b, o + 6, none⟩ (.int .u8 (IntKind.u8.wrap (v.fdiv (2 ^ 8))))) (some b) := grown_trans' (hw4.grown gr3) (grown_set _ _ _ _)
      obtain ⟨w4, hwe⟩ : ∃ z, z = w4'.setCell ⟨b, o + 6, none⟩ (.int .u8 (IntKind.u8.wrap (v.fdiv (2 ^ 8)))) := ⟨_, rfl⟩
      rw [← hwe] at at4 gr4 ⊢
      show Code.wp _ _ _ _ _
      refine last_quiet (Drawn w4) 21 _ [(.int .i64 ((6 : Nat) : Int)), (.int .i64 ((7 : Nat) : Int)), (.int .i64 ((7 : Nat) : Int))] [none, none, none] [0, 1, 4] [(.slice (some ⟨b, o, none⟩) l c), (.int .u64 v), (.int .i64 ((7 : Nat) : Int))] hm (by kernel_rfl) (by kernel_rfl) hf4 (fun r w => by kernel_rfl) (fun r => by kernel_rfl) (Drawn.refl w4) (fun _ => (Drawn.refl w4).drew) trivial fun f5 w5 hw5 hf5 => ?_
      show _ ∧ _
      refine ⟨⟨7, by omega, ?_, hw5.grown gr4, hf5⟩, ?_⟩
      · have at5 := hw5.at_ at4
        rw [splice_snoc cs o ((be8B v).take 6) (be8B v) 6 (by simp [be8B]) (by simp [be8B]; omega)]
        rw [show ((be8B v).getD 6 0) = by8 (v.fdiv (2 ^ 8)) from rfl, B8_by8]
        exact at5
      · unfold MeasS
        rw [show f5.tmps.getD 4 undef = _ from hf5.nth 2 rfl, show fr.tmps.getD 4 undef = _ from hfr.nth 2 rfl]
        simp only [intOf]
        omega
    · refine wp_seq (wp_block (reg_store (Drawn w3) _ rfl 21 _ [(.slice (some ⟨b, o, none⟩) l c), (.int .i64 ((7 : Nat) : Int)), (.int .u64 v), (.int .i64 ((7 : Nat) : Int)), (.int .i64 (IntKind.i64.wrap (8 * ((7 : Nat) : Int)))), (.int .i64 (IntKind.i64.wrap (56 - (IntKind.i64.wrap (8 * ((7 : Nat) : Int)))))), (.int .u64 (v.fdiv (2 ^ 0))), (.int .u8 (IntKind.u8.wrap (v.fdiv (2 ^ 0)))), (.pointer (some ⟨b, o + 7, none⟩))] [none, none, none, none, none, none, none, none, some (.sem (Instr.indexAt 22 (.slice (some ⟨b, o, none⟩) l c) (.int .i64 ((7 : Nat) : Int))) (.pointer (some ⟨b, o + 7, none⟩)))] [0, 1, 4] [(.slice (some ⟨b, o, none⟩) l c), (.int .u64 v), (.int .i64 ((7 : Nat) : Int))] (by kernel_rfl) hf3 (fun r w => by kernel_rfl) (fun r => by kernel_rfl) (Drawn.refl _) ⟨fun w _ => idxB_run b o l c 7 _ rfl (by omega) w, trivial⟩ rfl rfl (x := .tmp 20) (y := .tmp 19) rfl (b := b) (k := o + 7) (kd := .u8) (n := (IntKind.u8.wrap (v.fdiv (2 ^ 0)))) (fun r => by kernel_rfl) (fun r => by kernel_rfl) Try.size8 (fun w' hw' => At.there1 (hw'.at_ at3) (o + 7) (by rw [length_splice _ _ _ (by simp [be8B]; omega)]; omega)) fun f4 w4' hw4 hf4 => ?_))
      have at4 := At.set_ (hw4.at_ at3) (o + 7) (.int .u8 (IntKind.u8.wrap (v.fdiv (2 ^ 0))))
      have gr4 : w0.grownBy (w4'.setCell ⟨b, o + 7, none⟩ (.int .u8 (IntKind.u8.wrap (v.fdiv (2 ^ 0))))) (some b) := grown_trans' (hw4.grown gr3) (grown_set _ _ _ _)
      obtain ⟨w4, hwe⟩ : ∃ z, z = w4'.setCell ⟨b, o + 7, none⟩ (.int .u8 (IntKind.u8.wrap (v.fdiv (2 ^ 0)))) := ⟨_, rfl⟩
      rw [← hwe] at at4 gr4 ⊢
      show Code.wp _ _ _ _ _
      refine last_quiet (Drawn w4) 21 _ [(.int .i64 ((7 : Nat) : Int)), (.int .i64 ((8 : Nat) : Int)), (.int .i64 ((8 : Nat) : Int))] [none, none, none] [0, 1, 4] [(.slice (some ⟨b, o, none⟩) l c), (.int .u64 v), (.int .i64 ((8 : Nat) : Int))] hm (by kernel_rfl) (by kernel_rfl) hf4 (fun r w => by kernel_rfl) (fun r => by kernel_rfl) (Drawn.refl w4) (fun _ => (Drawn.refl w4).drew) trivial fun f5 w5 hw5 hf5 => ?_
      show _ ∧ _
      refine ⟨⟨8, by omega, ?_, hw5.grown gr4, hf5⟩, ?_⟩
      · have at5 := hw5.at_ at4
        rw [splice_snoc cs o ((be8B v).take 7) (be8B v) 7 (by simp [be8B]) (by simp [be8B]; omega)]
        rw [show ((be8B v).getD 7 0) = by8 (v.fdiv (2 ^ 0)) from rfl, B8_by8]
        exact at5
      · unfold MeasS
        rw [show f5.tmps.getD 4 undef = _ from hf5.nth 2 rfl, show fr.tmps.getD 4 undef = _ from hfr.nth 2 rfl]
        simp only [intOf]
        omega
  · refine wp_cond_false ((hf3.nth 3 rfl).trans (by rw [decide_eq_false (show ¬ (k : Int) < 8 by omega)])) (wp_exit ?_)
    obtain rfl : k = 8 := by omega
    refine bodyPost_end (results_none rfl _ _ _) hf3.2.1 ⟨rfl, ?_, gr3⟩
    rw [show (be8B v).take 8 = be8B v from rfl] at at3
    exact at3
end Go.Proofs.Ytahkgkonpjimpaa
