/-
  Aids for the digests' sums.
-/
import Derived.Test.YtahkgkonpjimpaaPuts
import Derived.Test.YtahkgkonpjimpaaMd5Wr
import Derived.Test.YtahkgkonpjimpaaSha1Wr
namespace Go.Proofs.Ytahkgkonpjimpaa
open Go.RowKit
set_option linter.unusedVariables false
/-- One operation of a region writes: the state before it, and what holds behind it. -/
def OneS (i : Nat) (w0 : World) (Post : World → Prop) (l : Array Bool) (w : World) : Prop := if l.getD i false = true then Post w else w = w0
section
variable {i : Nat} {w0 w : World} {Post : World → Prop} {l : Array Bool}
theorem OneS.start (n : Nat) : OneS i w0 Post (Array.replicate n false) w0 := by
  unfold OneS
  rw [getD_replicate_false, if_neg (by decide)]
theorem OneS.other (h : OneS i w0 Post l w) (q : Nat) (hq : q ≠ i) : OneS i w0 Post (l.setIfInBounds q true) w := by
  unfold OneS
  rw [getD_set_ne false hq]
  exact h
theorem OneS.before (h : OneS i w0 Post l w) (hun : l.getD i false = false) : w = w0 := by
  unfold OneS at h
  rw [hun, if_neg (by decide)] at h
  exact h
theorem OneS.done {w' : World} (hs : i < l.size) (h : Post w') : OneS i w0 Post (l.setIfInBounds i true) w' := by
  unfold OneS
  rw [show (l.setIfInBounds i true).getD i false = true by simp [hs], if_pos rfl]
  exact h
theorem OneS.end_ (h : OneS i w0 Post l w) (hl : l.getD i false = true) : Post w := by
  unfold OneS at h
  rw [hl, if_pos rfl] at h
  exact h
/-- Whatever has come up: what holds at the start and behind the writer holds. -/
theorem OneS.both (h : OneS i w0 Post l w) {R : World → Prop} (h1 : R w0) (h2 : ∀ x, Post x → R x) : R w := by
  unfold OneS at h
  split at h
  · exact h2 _ h
  · rw [h]; exact h1
end
/-- A composite value, laid into a new variable. -/
theorem reg_build {P : Program} {id : Nat} {o1 o2 o3 : Oper} {Q : Exit → Act → World → Prop} {a : Act} {w : World} (N : Nat) (env : Env) (d1 d2 : Nat) (t T : TypeId) (parts : Array (Nat × Operand)) (vs : Array (Nat × Value)) (cs zs : List Value)
    (g1 : o1.guard = none) (g2 : o2.guard = none) (g3 : o3.guard = none) (e1 : o1.dst = some d1) (e2 : o2.dst = some d2) (e3 : o3.dst = none) (p1 : o1.op = .build t parts) (p2 : o2.op = .alloc T) (p3 : o3.op = .store T (.tmp d2) (.tmp d1))
    (hvs : ∀ a : Act, (parts.map fun (i, x) => (i, a.eval x)) = vs) (hrun : ∀ w, (Instr.build t vs).run P w = .ok (.agg cs.toArray) w) (z : Value) (hz : ∀ w, (zeroValue T).run P w = .ok z w) (hzs : z.cells = zs.toArray) (hi : (P.info? T).map (·.size) = some cs.length) (hl : zs.length = cs.length) (h1 : ∀ v ∈ cs, v.oneCell' = true)
    (hfr : Fr N env a) (hd1 : d1 < N) (hd2 : d2 < N) (hne : d1 ≠ d2) (hn1 : env.all (fun p => !Nat.beq p.1 d1) = true) (hn2 : env.all (fun p => !Nat.beq p.1 d2) = true)
    (h : ∀ a' w', w.grownBy w' none → At w' w.heap.size T cs → Fr N ((d2, .pointer (some ⟨w.heap.size, 0, none⟩)) :: env) a' → Q .normal a' w') : (Code.region id #[o1, o2, o3] false).wp P Q a w := by
  refine wp_region_list ?_
  show wpList P _ Q [o1, o2, o3] a w
  refine wpList_plain g1 fun K hK => ?_
  unfold Oper.wp execOp
  simp only [p1, hvs, Sem.run_bind, hrun, Result.andThen_ok, Sem.run_pure]
  refine hK _ _ ?_
  rw [e1]
  have f1 := hfr.put d1 (.agg cs.toArray) hd1 hn1
  refine wpList_var g2 T p2 z zs hz hzs fun w2 hw2 => ?_
  rw [e2]
  have f2 : Fr N ((d2, .pointer (some ⟨w.heap.size, 0, none⟩)) :: (d1, .agg cs.toArray) :: env) ((a.put (some d1) (.agg cs.toArray)).put (some d2) (.pointer (some ⟨w.heap.size, 0, none⟩))) := f1.put d2 _ hd2 (by
    rw [List.all_cons, Bool.and_eq_true]
    exact ⟨by cases hb : Nat.beq d1 d2 with
      | true => exact absurd (Nat.eq_of_beq_eq_true hb) hne
      | false => rfl, hn2⟩)
  refine wpList_put g3 T (.tmp d2) (.tmp d1) p3 w.heap.size cs (f2.get (by simp)) (f2.get (by simp)) T zs hw2.at_ hi hl h1 fun w3 hw3 => ?_
  rw [e3]
  show Q .normal _ w3
  refine h _ w3 ?_ hw3.at_ ⟨f2.1, f2.2.1, fun p hp => f2.2.2 p ?_⟩
  · refine ⟨hw3.grown.os.trans hw2.grown.os, hw3.grown.tape.trans hw2.grown.tape, hw3.grown.output.trans hw2.grown.output, Nat.le_trans hw2.grown.size hw3.grown.size, fun i hi' _ => ?_⟩
    rw [hw3.grown.block i (Nat.lt_of_lt_of_le hi' hw2.grown.size) (by simp; omega)]
    exact hw2.grown.block i hi' (by simp)
  · rcases List.mem_cons.1 hp with rfl | hp
    · simp
    · simp [hp]
/-- A whole row out of one variable into another. -/
theorem reg_move {P : Program} {id : Nat} {o1 o2 : Oper} {Q : Exit → Act → World → Prop} {a : Act} {w : World} (N : Nat) (env : Env) (T : TypeId) (x y : Nat) (d : Nat) (b1 b2 : Nat) (cs old : List Value) (ds : TypeDesc)
    (g1 : o1.guard = none) (g2 : o2.guard = none) (e1 : o1.dst = some d) (e2 : o2.dst = none) (p1 : o1.op = .load T (.tmp x)) (p2 : o2.op = .store T (.tmp y) (.tmp d)) (hfr : Fr N env a) (hd : d < N) (hn : env.all (fun p => !Nat.beq p.1 d) = true)
    (hx : (x, .pointer (some ⟨b1, 0, none⟩)) ∈ env) (hy : (y, .pointer (some ⟨b2, 0, none⟩)) ∈ env) (hg1 : At w b1 T cs) (hg2 : At w b2 T old) (hu : P.underlying T = some ds) (hds : ds.isRow = true) (hi : (P.info? T).map (·.size) = some cs.length) (hl : old.length = cs.length) (h1 : ∀ v ∈ cs, v.oneCell' = true)
    (h : ∀ a' w', PutB w w' b2 T cs → Fr N env a' → Q .normal a' w') : (Code.region id #[o1, o2] false).wp P Q a w := by
  refine wp_region_list ?_
  show wpList P _ Q [o1, o2] a w
  refine wpList_get g1 T (.tmp x) p1 b1 (hfr.get hx) T cs ds hg1 hu (by revert hds; cases ds <;> simp) hi ?_
  rw [e1]
  have f1 := hfr.put d (.agg cs.toArray) hd hn
  refine wpList_put g2 T (.tmp y) (.tmp d) p2 b2 cs (f1.get (by simp [hy])) (f1.get (by simp)) T old hg2 hi hl h1 fun w2 hw2 => ?_
  rw [e2]
  show Q .normal _ w2
  exact h _ w2 hw2 ⟨f1.1, f1.2.1, fun p hp => f1.2.2 p (by simp [hp])⟩
theorem slice72 (gt k : Nat) (hk : k < 72) (w : World) : (Instr.sliceAt 76 (.pointer (some ⟨gt, 0, none⟩)) (some (.int .u64 (k : Int))) none none).run Try.prog w = .ok (.slice (some ⟨gt, k, none⟩) (72 - k) (72 - k)) w := by
  have q1 : (k : Int) ≤ 72 := by omega
  have q2 : ¬ 72 = k := by omega
  unfold Instr.sliceAt
  go_simp
theorem slice72to (gt k : Nat) (hk : k ≤ 72) (w : World) : (Instr.sliceAt 76 (.pointer (some ⟨gt, 0, none⟩)) none (some (.int .u64 (k : Int))) none).run Try.prog w = .ok (.slice (some ⟨gt, 0, none⟩) k 72) w := by
  have q1 : (k : Int) ≤ 72 := by omega
  unfold Instr.sliceAt
  go_simp
theorem slice_mid (b n c k : Nat) (hk : k ≤ n) (hn : n ≤ c) (hkc : k < c) (w : World) : (Instr.sliceAt 22 (.slice (some ⟨b, 0, none⟩) n c) (some (.int .u64 (k : Int))) none none).run Try.prog w = .ok (.slice (some ⟨b, k, none⟩) (n - k) (c - k)) w := by
  have q1 : (k : Int) ≤ (n : Int) := by omega
  have q2 : ¬ c = k := by omega
  unfold Instr.sliceAt
  go_simp
/-- A digest that stands for the stream T. -/
def Dg {S : Type} (t : TypeId) (cl : S → List Value) (G : List UInt8 → Nat → S → S) (iv : S) (w : World) (g : Nat) (T : List UInt8) : Prop := ∃ (s : S) (X : List UInt8) (q : Nat), Left G iv T s X q ∧ At w g t (DCg (cl s) X q T.length)
theorem Dg.keep {S : Type} {t : TypeId} {cl : S → List Value} {G : List UInt8 → Nat → S → S} {iv : S} {w w' : World} {g : Nat} {T : List UInt8} {row : Option Nat} (h : Dg t cl G iv w g T) (hg : w.grownBy w' row) (hne : some g ≠ row) : Dg t cl G iv w' g T := by
  obtain ⟨s, X, q, h1, h2⟩ := h
  exact ⟨s, X, q, h1, h2.grown hg hne⟩
theorem Dg.lt {S : Type} {t : TypeId} {cl : S → List Value} {G : List UInt8 → Nat → S → S} {iv : S} {w : World} {g : Nat} {T : List UInt8} (h : Dg t cl G iv w g T) : g < w.heap.size := by
  obtain ⟨s, X, q, h1, h2⟩ := h
  exact h2.lt
def padN (ln : Nat) : Nat := (119 - ln % 64) % 64
theorem padN_I : ∀ x : Fin 1001, (IntKind.u64.wrap (55 - ((x.val : Nat) : Int))).tmod 64 = ((padN x.val : Nat) : Int) := by decide +kernel
def padM (ln : Nat) : List UInt8 := (128 : UInt8) :: List.replicate (padN ln) 0 ++ le8B ((ln : Int) * 2 ^ 3)
def tS (ln : Nat) : Nat := if ln % 64 < 56 then 56 - ln % 64 else 120 - ln % 64
def padS (ln : Nat) : List UInt8 := (128 : UInt8) :: List.replicate (tS ln - 1) 0 ++ be8B ((ln : Int) * 2 ^ 3)
theorem le8B_len (v : Int) : (le8B v).length = 8 := rfl
theorem be8B_len (v : Int) : (be8B v).length = 8 := rfl
theorem padM_len (ln : Nat) : (padM ln).length = padN ln + 9 := by simp [padM, le8B_len]
theorem tS_pos (ln : Nat) : 0 < tS ln ∧ tS ln ≤ 64 := by unfold tS; split <;> omega
theorem padS_len (ln : Nat) : (padS ln).length = tS ln + 8 := by
  have := tS_pos ln
  simp [padS, be8B_len]
  omega
theorem padM_full (ln : Nat) : (ln + (padM ln).length) % 64 = 0 := by rw [padM_len]; unfold padN; omega
theorem padS_full (ln : Nat) : (ln + (padS ln).length) % 64 = 0 := by rw [padS_len]; unfold tS; split <;> omega
def endM (T : List UInt8) : S4 := BsFrom md5G (T ++ padM T.length) 0 ivM ((T ++ padM T.length).length / 64)
def endS (T : List UInt8) : S5 := BsFrom sha1G (T ++ padS T.length) 0 ivS ((T ++ padS T.length).length / 64)
def sumM (T : List UInt8) : List UInt8 := le4B (endM T).1 ++ le4B (endM T).2.1 ++ le4B (endM T).2.2.1 ++ le4B (endM T).2.2.2
def sumS1 (T : List UInt8) : List UInt8 := be4B (endS T).1 ++ be4B (endS T).2.1 ++ be4B (endS T).2.2.1 ++ be4B (endS T).2.2.2.1 ++ be4B (endS T).2.2.2.2
/-- The padding's row: the mark, zeros, the length. -/
theorem pad_row (D : List UInt8) (hD : D.length = 8) (k : Nat) (hk : k ≤ 63) : splice (.int .u8 128 :: List.replicate 71 (.int .u8 0)) (k + 1) (D.map B8) = ((128 : UInt8) :: List.replicate k 0 ++ D).map B8 ++ List.replicate (63 - k) (.int .u8 0) := by
  have e0 : B8 0 = .int .u8 0 := rfl
  have e1 : B8 128 = .int .u8 128 := rfl
  have e71 : List.replicate 71 (Value.int .u8 0) = List.replicate k (.int .u8 0) ++ (List.replicate 8 (.int .u8 0) ++ List.replicate (63 - k) (.int .u8 0)) := by
    rw [List.replicate_append_replicate, List.replicate_append_replicate]
    congr 1
    omega
  unfold splice
  rw [e71, List.length_map, hD]
  simp only [List.take_succ_cons, List.cons_append, List.map_cons, List.map_append, List.map_replicate, e0, e1]
  rw [List.take_append_of_le_length (by simp), List.take_of_length_le (by simp)]
  rw [show k + 1 + 8 = (k + 8) + 1 by omega, List.drop_succ_cons, List.drop_append, List.drop_eq_nil_of_le (by simp), List.nil_append, List.drop_append]
  simp
theorem grown_off {w0 w1 w2 : World} {g b : Nat} (h : w0.grownBy w1 (some g)) (k : w1.grownBy w2 (some b)) (hb : w0.heap.size ≤ b) : w0.grownBy w2 (some g) :=
  ⟨k.os.trans h.os, k.tape.trans h.tape, k.output.trans h.output, Nat.le_trans h.size k.size, fun i hi hne => (k.block i (Nat.lt_of_lt_of_le hi h.size) (by simp; omega)).trans (h.block i hi hne)⟩
end Go.Proofs.Ytahkgkonpjimpaa
