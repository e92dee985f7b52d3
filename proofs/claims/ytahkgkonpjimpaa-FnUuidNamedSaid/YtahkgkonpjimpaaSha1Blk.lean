/-
  sha1's blockGeneric: what it does to the five words, block by block.
-/
import Derived.Test.YtahkgkonpjimpaaMd5Blk
namespace Go.Proofs.Ytahkgkonpjimpaa
open Go.RowKit
set_option linter.unusedVariables false
def SH (x : Int) (n : Nat) : Int := IntKind.u32.wrap (x * 2 ^ n)
abbrev S5 := Int × Int × Int × Int × Int
def fS (k : Nat) (b c d : Int) : Int :=
  match k with
  | 0 => O32 (N32 b c) (N32 (V32 b) d)
  | 1 => O32 (N32 b c) (N32 (V32 b) d)
  | 2 => X32 (X32 b c) d
  | 3 => O32 (N32 (O32 b c) d) (N32 b c)
  | _ => X32 (X32 b c) d
def kS (k : Nat) : Int :=
  match k with
  | 0 => 1518500249
  | 1 => 1518500249
  | 2 => 1859775393
  | 3 => 2400959708
  | _ => 3395469782
def tmpS (W : List Int) (i : Nat) : Int := X32 (X32 (X32 (W.getD ((i - 3) % 16) 0) (W.getD ((i - 8) % 16) 0)) (W.getD ((i - 14) % 16) 0)) (W.getD (i % 16) 0)
def rndS (k : Nat) (W : List Int) (i : Nat) (T : S5) : S5 := (A32 (A32 (A32 (A32 (rotI T.1 5) (fS k T.2.1 T.2.2.1 T.2.2.2.1)) T.2.2.2.2) (W.getD (i % 16) 0)) (kS k), T.1, rotI T.2.1 30, T.2.2.1, T.2.2.2.1)
def stS (k i : Nat) (X : S5 × List Int) : S5 × List Int :=
  match k with
  | 0 => (rndS 0 X.2 i X.1, X.2)
  | k + 1 => (rndS (k + 1) (X.2.set (i % 16) (rotI (tmpS X.2 i) 1)) i X.1, X.2.set (i % 16) (rotI (tmpS X.2 i) 1))
def phS (i : Nat) : Nat := if i < 16 then 0 else if i < 20 then 1 else if i < 40 then 2 else if i < 60 then 3 else 4
def runS (X : S5 × List Int) : Nat → S5 × List Int
  | 0 => X
  | i + 1 => stS (phS i) i (runS X i)
def be4 (x0 x1 x2 x3 : UInt8) : Int := O32 (O32 (O32 (SH (IntKind.u32.wrap (x0.toNat : Int)) 24) (SH (IntKind.u32.wrap (x1.toNat : Int)) 16)) (SH (IntKind.u32.wrap (x2.toNat : Int)) 8)) (IntKind.u32.wrap (x3.toNat : Int))
def wordsS (bs : List UInt8) (i j : Nat) : Int := be4 (bs.getD (i + 4 * j) 0) (bs.getD (i + (4 * j + 1)) 0) (bs.getD (i + (4 * j + 2)) 0) (bs.getD (i + (4 * j + 3)) 0)
def sumS (H T : S5) : S5 := (A32 H.1 T.1, A32 H.2.1 T.2.1, A32 H.2.2.1 T.2.2.1, A32 H.2.2.2.1 T.2.2.2.1, A32 H.2.2.2.2 T.2.2.2.2)
def sha1Bs (bs : List UInt8) (s : S5) : Nat → S5
  | 0 => s
  | k + 1 => sumS (sha1Bs bs s k) (runS (sha1Bs bs s k, (List.range 16).map (wordsS bs (64 * k))) 80).1
def cellsS (s : S5) : List Value := [.int .u32 s.1, .int .u32 s.2.1, .int .u32 s.2.2.1, .int .u32 s.2.2.2.1, .int .u32 s.2.2.2.2]
theorem and15 : ∀ x : Fin 80, bits .and .i64 ((x.val : Nat) : Int) 15 = ((x.val % 16 : Nat) : Int) := by decide +kernel
theorem ix15 (i : Nat) (z : Int) (hz : z = (i : Int)) (h : i < 80) : bits .and .i64 z 15 = ((i % 16 : Nat) : Int) := by rw [hz]; exact and15 ⟨i, h⟩
theorem idx_item (C : World → Prop) (gw q : Nat) (z : Int) (hz : z = (q : Int) ∧ q < 16) : ItemOK Try.prog C (.sem (Instr.indexAt 90 (.pointer (some ⟨gw, 0, none⟩)) (.int .i64 z)) (.pointer (some ⟨gw, q, none⟩))) := fun w _ => by
  obtain ⟨rfl, hq⟩ := hz
  have h1 : (q : Int) < 16 := by omega
  unfold Instr.indexAt
  go_simp
theorem idxB_run (b o n c q : Nat) (z : Int) (hz : z = (q : Int)) (hq : q < n) (w : World) : (Instr.indexAt 22 (.slice (some ⟨b, o, none⟩) n c) (.int .i64 z)).run Try.prog w = .ok (.pointer (some ⟨b, o + q, none⟩)) w := by
  subst hz
  have h1 : (q : Int) < n := by omega
  unfold Instr.indexAt
  go_simp
theorem slice_up (b o n c : Nat) (hk : 64 ≤ n) (hn : n ≤ c) (w : World) : (Instr.sliceAt 22 (.slice (some ⟨b, o, none⟩) n c) (some (.int .i64 64)) none none).run Try.prog w = .ok (.slice (if c = 64 then some ⟨b, o, none⟩ else some ⟨b, o + 64, none⟩) (n - 64) (c - 64)) w := by
  have q1 : (64 : Int) ≤ (n : Int) := by omega
  unfold Instr.sliceAt
  go_simp
def WS (w : World) (gw : Nat) (W : List Int) : Prop := W.length = 16 ∧ At w gw 90 (W.map fun x => .int .u32 x)
theorem WS.cell {w : World} {gw : Nat} {W : List Int} (h : WS w gw W) (q : Nat) (hq : q < 16) : w.cell? ⟨gw, q, none⟩ = some (.int .u32 (W.getD q 0)) := by
  rw [h.2.cell q (by rw [List.length_map, h.1]; exact hq)]
  simp [List.getD, show q < W.length by rw [h.1]; exact hq]
theorem WS.drawn {w w' : World} {gw : Nat} {W : List Int} (h : WS w gw W) (hd : Drawn w w') : WS w' gw W := by
  obtain ⟨n, rfl⟩ := hd
  exact h
theorem WS.set {w : World} {gw : Nat} {W : List Int} (h : WS w gw W) (q : Nat) (v : Int) : WS (w.setCell ⟨gw, q, none⟩ (.int .u32 v)) gw (W.set q v) := by
  refine ⟨by rw [List.length_set]; exact h.1, ?_⟩
  have := h.2.set_ q (.int .u32 v)
  rw [List.map_set]
  exact this
theorem WS.there {w : World} {gw : Nat} {W : List Int} (h : WS w gw W) (q : Nat) (hq : q < 16) : w.there gw q 1 := fun j hj => by
  obtain rfl : j = 0 := by omega
  exact ⟨by rw [Nat.add_zero, h.cell q hq]; rfl, by rw [Nat.add_zero]; exact h.2.frozen q⟩
theorem Drawn.below {w w' : World} (h : Drawn w w') {B : Nat} {a : World} (hb : Below B a w) : Below B a w' := by
  obtain ⟨n, rfl⟩ := h
  exact below_drewN hb n
theorem below_set {B gw q : Nat} {a w : World} {v : Value} (hb : Below B a w) (hg : B ≤ gw) (hB : B ≤ w.heap.size) : Below B a (w.setCell ⟨gw, q, none⟩ v) :=
  ⟨hb.os, hb.tape, hb.output, by simpa [World.setCell] using hb.size, fun i hi => by
    rw [Below.heap_setCell w _ v i (by show i ≠ gw; omega)]
    exact hb.block i hi⟩
def lenOf : Value → Nat
  | .slice _ n _ => n
  | _ => 0
def MeasS (sl hi : Nat) (a : Act) (_ : World) : Nat := hi - (intOf (a.tmps.getD sl undef)).toNat
theorem Try.zero16 (w : World) : (zeroValue 90).run Try.prog w = .ok (.agg ((List.replicate 16 (0 : Int)).map fun x => .int .u32 x).toArray) w := by kernel_rfl
def stCellsS (old new : S5) (rest : List Value) (b0 b1 b2 b3 b4 : Bool) : List Value := [.int .u32 (if b0 then new.1 else old.1), .int .u32 (if b1 then new.2.1 else old.2.1), .int .u32 (if b2 then new.2.2.1 else old.2.2.1), .int .u32 (if b3 then new.2.2.2.1 else old.2.2.2.1), .int .u32 (if b4 then new.2.2.2.2 else old.2.2.2.2)] ++ rest
def StS (g : Nat) (old new : S5) (rest : List Value) (w0 : World) (l : Array Bool) (w : World) : Prop := PutB w0 w g 62 (stCellsS old new rest (l.getD 13 false) (l.getD 17 false) (l.getD 21 false) (l.getD 25 false) (l.getD 29 false))
section
variable {g : Nat} {old new : S5} {rest : List Value} {w0 w : World} {l : Array Bool}
theorem StS.start (h : At w0 g 62 (cellsS old ++ rest)) (n : Nat) : StS g old new rest w0 (Array.replicate n false) w0.drew := by
  unfold StS
  simp only [getD_replicate_false]
  exact (PutB.refl h).drew
theorem StS.other (h : StS g old new rest w0 l w) (q : Nat) (h1 : q ≠ 13) (h2 : q ≠ 17) (h3 : q ≠ 21) (h4 : q ≠ 25) (h5 : q ≠ 29) : StS g old new rest w0 (l.setIfInBounds q true) w := by
  unfold StS
  rw [getD_set_ne false h1, getD_set_ne false h2, getD_set_ne false h3, getD_set_ne false h4, getD_set_ne false h5]
  exact h
theorem StS.there (h : StS g old new rest w0 l w) (m : Nat) (hm : m < 5) : w.there g m 1 := fun j hj => by
  obtain rfl : j = 0 := by omega
  refine ⟨?_, by rw [Nat.add_zero]; exact h.at_.frozen m⟩
  rw [Nat.add_zero, h.at_.cell m (by simp [stCellsS]; omega)]
  rfl
theorem StS.store0 (h : StS g old new rest w0 l w) (hs : 13 < l.size) : StS g old new rest w0 (l.setIfInBounds 13 true) (w.setCell ⟨g, 0, none⟩ (.int .u32 new.1)) := by
  have hp := h.trans (PutB.setCell h.at_ 0 (.int .u32 new.1))
  unfold StS
  rw [show (l.setIfInBounds 13 true).getD 13 false = true by simp [hs], getD_set_ne false (show 13 ≠ 17 by decide), getD_set_ne false (show 13 ≠ 21 by decide), getD_set_ne false (show 13 ≠ 25 by decide), getD_set_ne false (show 13 ≠ 29 by decide)]
  exact hp
theorem StS.store1 (h : StS g old new rest w0 l w) (hs : 17 < l.size) : StS g old new rest w0 (l.setIfInBounds 17 true) (w.setCell ⟨g, 1, none⟩ (.int .u32 new.2.1)) := by
  have hp := h.trans (PutB.setCell h.at_ 1 (.int .u32 new.2.1))
  unfold StS
  rw [show (l.setIfInBounds 17 true).getD 17 false = true by simp [hs], getD_set_ne false (show 17 ≠ 13 by decide), getD_set_ne false (show 17 ≠ 21 by decide), getD_set_ne false (show 17 ≠ 25 by decide), getD_set_ne false (show 17 ≠ 29 by decide)]
  exact hp
theorem StS.store2 (h : StS g old new rest w0 l w) (hs : 21 < l.size) : StS g old new rest w0 (l.setIfInBounds 21 true) (w.setCell ⟨g, 2, none⟩ (.int .u32 new.2.2.1)) := by
  have hp := h.trans (PutB.setCell h.at_ 2 (.int .u32 new.2.2.1))
  unfold StS
  rw [show (l.setIfInBounds 21 true).getD 21 false = true by simp [hs], getD_set_ne false (show 21 ≠ 13 by decide), getD_set_ne false (show 21 ≠ 17 by decide), getD_set_ne false (show 21 ≠ 25 by decide), getD_set_ne false (show 21 ≠ 29 by decide)]
  exact hp
theorem StS.store3 (h : StS g old new rest w0 l w) (hs : 25 < l.size) : StS g old new rest w0 (l.setIfInBounds 25 true) (w.setCell ⟨g, 3, none⟩ (.int .u32 new.2.2.2.1)) := by
  have hp := h.trans (PutB.setCell h.at_ 3 (.int .u32 new.2.2.2.1))
  unfold StS
  rw [show (l.setIfInBounds 25 true).getD 25 false = true by simp [hs], getD_set_ne false (show 25 ≠ 13 by decide), getD_set_ne false (show 25 ≠ 17 by decide), getD_set_ne false (show 25 ≠ 21 by decide), getD_set_ne false (show 25 ≠ 29 by decide)]
  exact hp
theorem StS.store4 (h : StS g old new rest w0 l w) (hs : 29 < l.size) : StS g old new rest w0 (l.setIfInBounds 29 true) (w.setCell ⟨g, 4, none⟩ (.int .u32 new.2.2.2.2)) := by
  have hp := h.trans (PutB.setCell h.at_ 4 (.int .u32 new.2.2.2.2))
  unfold StS
  rw [show (l.setIfInBounds 29 true).getD 29 false = true by simp [hs], getD_set_ne false (show 29 ≠ 13 by decide), getD_set_ne false (show 29 ≠ 17 by decide), getD_set_ne false (show 29 ≠ 21 by decide), getD_set_ne false (show 29 ≠ 25 by decide)]
  exact hp
theorem StS.fin {wA : World} (h : StS g old new rest w0 l w) (hall : ∀ j, j < 30 → l.getD j false = true) (hgr : wA.grownBy w0 (some g)) : At w g 62 (cellsS new ++ rest) ∧ wA.grownBy w (some g) := by
  unfold StS at h
  rw [hall 13 (by decide), hall 17 (by decide), hall 21 (by decide), hall 25 (by decide), hall 29 (by decide)] at h
  exact ⟨h.at_, grown_trans' hgr h.grown⟩
end
theorem phS_step (X : S5 × List Int) (i k : Nat) (Y : S5 × List Int) (h : runS X i = Y) (hp : phS i = k) : runS X (i + 1) = stS k i Y := by
  show stS (phS i) i (runS X i) = _
  rw [h, hp]
/-- The word loop's one region: the cell before and behind. -/
def LdW (gw : Nat) (W : List Int) (q : Nat) (v : Int) (w0 : World) (B a : Nat) (x0 x1 x2 x3 : UInt8) (l : Array Bool) (w : World) : Prop :=
  WS w gw (if l.getD 31 false then W.set q v else W) ∧ Below gw w0 w ∧ w.cell? ⟨B, a, none⟩ = some (B8 x0) ∧ w.cell? ⟨B, a + 1, none⟩ = some (B8 x1) ∧ w.cell? ⟨B, a + 2, none⟩ = some (B8 x2) ∧ w.cell? ⟨B, a + 3, none⟩ = some (B8 x3)
theorem LdW.other {gw : Nat} {W : List Int} {q : Nat} {v : Int} {w0 w : World} {B a : Nat} {x0 x1 x2 x3 : UInt8} {l : Array Bool} (h : LdW gw W q v w0 B a x0 x1 x2 x3 l w) (i : Nat) (hi : i ≠ 31) : LdW gw W q v w0 B a x0 x1 x2 x3 (l.setIfInBounds i true) w := by
  unfold LdW
  rw [getD_set_ne false hi]
  exact h
theorem LdW.c0 {gw : Nat} {W : List Int} {q : Nat} {v : Int} {w0 w : World} {B a : Nat} {x0 x1 x2 x3 : UInt8} {l : Array Bool} (h : LdW gw W q v w0 B a x0 x1 x2 x3 l w) : w.cell? ⟨B, a, none⟩ = some (.int .u8 (x0.toNat : Int)) := h.2.2.1
theorem LdW.c1 {gw : Nat} {W : List Int} {q : Nat} {v : Int} {w0 w : World} {B a : Nat} {x0 x1 x2 x3 : UInt8} {l : Array Bool} (h : LdW gw W q v w0 B a x0 x1 x2 x3 l w) : w.cell? ⟨B, a + 1, none⟩ = some (.int .u8 (x1.toNat : Int)) := h.2.2.2.1
theorem LdW.c2 {gw : Nat} {W : List Int} {q : Nat} {v : Int} {w0 w : World} {B a : Nat} {x0 x1 x2 x3 : UInt8} {l : Array Bool} (h : LdW gw W q v w0 B a x0 x1 x2 x3 l w) : w.cell? ⟨B, a + 2, none⟩ = some (.int .u8 (x2.toNat : Int)) := h.2.2.2.2.1
theorem LdW.c3 {gw : Nat} {W : List Int} {q : Nat} {v : Int} {w0 w : World} {B a : Nat} {x0 x1 x2 x3 : UInt8} {l : Array Bool} (h : LdW gw W q v w0 B a x0 x1 x2 x3 l w) : w.cell? ⟨B, a + 3, none⟩ = some (.int .u8 (x3.toNat : Int)) := h.2.2.2.2.2
theorem LdW.there {gw : Nat} {W : List Int} {q : Nat} {v : Int} {w0 w : World} {B a : Nat} {x0 x1 x2 x3 : UInt8} {l : Array Bool} (h : LdW gw W q v w0 B a x0 x1 x2 x3 l w) (hun : l.getD 31 false = false) (k : Nat) (hk : k < 16) : w.there gw k 1 := by
  have h0 := h.1
  rw [hun] at h0
  exact h0.there k hk
theorem LdW.store {gw : Nat} {W : List Int} {q : Nat} {v : Int} {w0 w : World} {B a : Nat} {x0 x1 x2 x3 : UInt8} {l : Array Bool} (h : LdW gw W q v w0 B a x0 x1 x2 x3 l w) (hs : 31 < l.size) (hun : l.getD 31 false = false) (hB : B < gw) (hgs : gw ≤ w.heap.size) : LdW gw W q v w0 B a x0 x1 x2 x3 (l.setIfInBounds 31 true) (w.setCell ⟨gw, q, none⟩ (.int .u32 v)) := by
  obtain ⟨h0, h1, h2, h3, h4, h5⟩ := h
  rw [hun] at h0
  have keep : ∀ x u, w.cell? ⟨B, x, none⟩ = some u → (w.setCell ⟨gw, q, none⟩ (.int .u32 v)).cell? ⟨B, x, none⟩ = some u := fun x u hx => by
    have hb := below_set (v := .int .u32 v) (q := q) (Below.refl gw w) (Nat.le_refl gw) hgs
    rw [hb.cell (p := ⟨B, x, none⟩) hB]; exact hx
  unfold LdW
  rw [show (l.setIfInBounds 31 true).getD 31 false = true by simp [hs]]
  exact ⟨h0.set q v, below_set h1 (Nat.le_refl _) hgs, keep _ _ h2, keep _ _ h3, keep _ _ h4, keep _ _ h5⟩
set_option maxRecDepth 1000000 in
set_option maxHeartbeats 40000000 in
theorem sha1_block (g : Nat) (s : S5) (rest : List Value) (B o m c n : Nat) (hn : n = 64 * m) (hnc : n ≤ c) (hbig : n ≤ 1000000) (bs : List UInt8) (hbs : bs.length = n) (w0 : World) (hg : At w0 g 62 (cellsS s ++ rest)) (hB : B < w0.heap.size) (hb : ∀ j (h : j < bs.length), w0.cell? ⟨B, o + j, none⟩ = some (B8 bs[j])) :
    Calls Try.prog 39 #[(.pointer (some ⟨g, 0, none⟩)), .slice (some ⟨B, o, none⟩) n c] w0 fun e w' => e = .returned (.tuple #[]) ∧ At w' g 62 (cellsS (sha1Bs bs s m) ++ rest) ∧ w0.grownBy w' (some g) := by
  have hm : Try.prog.follows .mixedOrders = true := by kernel_rfl
  have hgl := hg.lt
  go_enter Try.func39, Try.ntmps39
  refine fr_start 397 [(0, (.pointer (some ⟨g, 0, none⟩))), (1, (.slice (some ⟨B, o, none⟩) n c))] ⟨by kernel_rfl, rfl, List.forall_mem_cons.2 ⟨by kernel_rfl, List.forall_mem_cons.2 ⟨by kernel_rfl, fun _ h => by cases h⟩⟩⟩ fun fr0 hfr0 => ?_
  refine wp_seq (reg_var 397 _ 4 rfl rfl 90 rfl _ ((List.replicate 16 (0 : Int)).map fun x => .int .u32 x) Try.zero16 rfl hfr0 (by decide) (by kernel_rfl) fun fr1 w1 hw1 hfr1 => ?_)
  show Code.wp _ _ _ _ _
  have b1 : Below w0.heap.size w0 w1 := hw1.below (Below.refl _ _) (Nat.le_refl _)
  have g1 : At w1 g 62 (cellsS s ++ rest) := hw1.keep hg
  have s1 : WS w1 w0.heap.size (List.replicate 16 (0 : Int)) := ⟨rfl, hw1.at_⟩
  obtain ⟨gw, hgw⟩ : ∃ gw, gw = w0.heap.size := ⟨_, rfl⟩
  rw [← hgw] at b1 s1 hfr1 hB hgl
  clear hw1 hfr0
  obtain ⟨a0, b0, c0, d0, e0⟩ := s
  have hc0 : w1.cell? ⟨g, 0, none⟩ = some (.int .u32 a0) := g1.cell 0 (by simp [cellsS])
  have hc1 : w1.cell? ⟨g, 1, none⟩ = some (.int .u32 b0) := g1.cell 1 (by simp [cellsS])
  have hc2 : w1.cell? ⟨g, 2, none⟩ = some (.int .u32 c0) := g1.cell 2 (by simp [cellsS])
  have hc3 : w1.cell? ⟨g, 3, none⟩ = some (.int .u32 d0) := g1.cell 3 (by simp [cellsS])
  have hc4 : w1.cell? ⟨g, 4, none⟩ = some (.int .u32 e0) := g1.cell 4 (by simp [cellsS])
  refine seq_quiet (Drawn w1) 397 _ [(.pointer (some ⟨g, 0, none⟩)), (.pointer (some ⟨g, 0, none⟩)), (.pointer (some ⟨g, 0, none⟩)), (.pointer (some ⟨g, 0, none⟩)), (.int .u32 a0), (.pointer (some ⟨g, 0, none⟩)), (.pointer (some ⟨g, 0, none⟩)), (.pointer (some ⟨g, 0, none⟩)), (.pointer (some ⟨g, 1, none⟩)), (.int .u32 b0), (.pointer (some ⟨g, 0, none⟩)), (.pointer (some ⟨g, 0, none⟩)), (.pointer (some ⟨g, 0, none⟩)), (.pointer (some ⟨g, 2, none⟩)), (.int .u32 c0), (.pointer (some ⟨g, 0, none⟩)), (.pointer (some ⟨g, 0, none⟩)), (.pointer (some ⟨g, 0, none⟩)), (.pointer (some ⟨g, 3, none⟩)), (.int .u32 d0), (.pointer (some ⟨g, 0, none⟩)), (.pointer (some ⟨g, 0, none⟩)), (.pointer (some ⟨g, 0, none⟩)), (.pointer (some ⟨g, 4, none⟩)), (.int .u32 e0), (.int .u32 a0), (.int .u32 b0), (.int .u32 c0), (.int .u32 d0), (.int .u32 e0)] [none, none, none, some (.sem (Instr.indexAt 60 (.pointer (some ⟨g, 0, none⟩)) (.int .i64 0)) (.pointer (some ⟨g, 0, none⟩))), some (.sem (Instr.loadAt 52 (.pointer (some ⟨g, 0, none⟩))) (.int .u32 a0)), none, none, none, some (.sem (Instr.indexAt 60 (.pointer (some ⟨g, 0, none⟩)) (.int .i64 1)) (.pointer (some ⟨g, 1, none⟩))), some (.sem (Instr.loadAt 52 (.pointer (some ⟨g, 1, none⟩))) (.int .u32 b0)), none, none, none, some (.sem (Instr.indexAt 60 (.pointer (some ⟨g, 0, none⟩)) (.int .i64 2)) (.pointer (some ⟨g, 2, none⟩))), some (.sem (Instr.loadAt 52 (.pointer (some ⟨g, 2, none⟩))) (.int .u32 c0)), none, none, none, some (.sem (Instr.indexAt 60 (.pointer (some ⟨g, 0, none⟩)) (.int .i64 3)) (.pointer (some ⟨g, 3, none⟩))), some (.sem (Instr.loadAt 52 (.pointer (some ⟨g, 3, none⟩))) (.int .u32 d0)), none, none, none, some (.sem (Instr.indexAt 60 (.pointer (some ⟨g, 0, none⟩)) (.int .i64 4)) (.pointer (some ⟨g, 4, none⟩))), some (.sem (Instr.loadAt 52 (.pointer (some ⟨g, 4, none⟩))) (.int .u32 e0)), none, none, none, none, none] [0, 1, 4, 5, 6, 7, 8, 9] [(.pointer (some ⟨g, 0, none⟩)), (.slice (some ⟨B, o, none⟩) n c), (.pointer (some ⟨gw, 0, none⟩)), (.int .u32 a0), (.int .u32 b0), (.int .u32 c0), (.int .u32 d0), (.int .u32 e0)] hm (by kernel_rfl) (by kernel_rfl) hfr1 (fun r w => by kernel_rfl) (fun r => by kernel_rfl) (Drawn.refl w1) (fun _ => (Drawn.refl w1).drew) ⟨fun _ _ => by kernel_rfl, load_item hc0 Try.underlying52 rfl, fun _ _ => by kernel_rfl, load_item hc1 Try.underlying52 rfl, fun _ _ => by kernel_rfl, load_item hc2 Try.underlying52 rfl, fun _ _ => by kernel_rfl, load_item hc3 Try.underlying52 rfl, fun _ _ => by kernel_rfl, load_item hc4 Try.underlying52 rfl, trivial⟩ fun fr2 w2 hw2 hfr2 => ?_
  refine wp_seq (wp_block (wp_loop (fun a w => ∃ (k : Nat) (S : S5) (A : Option Addr) (c' : Nat) (W : List Int), k ≤ m ∧ S = sha1Bs bs (a0, b0, c0, d0, e0) k ∧ (k < m → A = some ⟨B, o + 64 * k, none⟩ ∧ n - 64 * k ≤ c') ∧ WS w gw W ∧ Below gw w0 w ∧ Fr 397 [(0, (.pointer (some ⟨g, 0, none⟩))), (1, (.slice A (n - 64 * k) c')), (4, (.pointer (some ⟨gw, 0, none⟩))), (5, (.int .u32 S.1)), (6, (.int .u32 S.2.1)), (7, (.int .u32 S.2.2.1)), (8, (.int .u32 S.2.2.2.1)), (9, (.int .u32 S.2.2.2.2))] a) (fun a _ => lenOf (a.tmps.getD 1 undef)) ⟨0, (a0, b0, c0, d0, e0), some ⟨B, o, none⟩, c, _, Nat.zero_le _, rfl, (fun _ => ⟨rfl, by omega⟩), s1.drawn hw2, hw2.below b1, hfr2⟩ ?_))
  clear hfr1 hfr2 hw2 hc0 hc1 hc2 hc3 hc4
  rintro fr w ⟨k, ⟨HA, HB, HC, HD, HE⟩, A, c', W, hk, hS, hA, hW, hbel, hfr⟩
  obtain ⟨l, hl⟩ : ∃ l, l = n - 64 * k := ⟨_, rfl⟩
  rw [← hl] at hfr hA
  have hfr' := hfr
  refine wp_seq ?_
  refine seq_quiet (Drawn w) 397 _ [(.slice A l c'), (.int .i64 (l : Int)), (.bool (decide ((64 : Int) ≤ (l : Int))))] [none, none, none] [0, 1, 4, 5, 6, 7, 8, 9, 59] [(.pointer (some ⟨g, 0, none⟩)), (.slice A l c'), (.pointer (some ⟨gw, 0, none⟩)), (.int .u32 HA), (.int .u32 HB), (.int .u32 HC), (.int .u32 HD), (.int .u32 HE), (.bool (decide ((64 : Int) ≤ (l : Int))))] hm (by kernel_rfl) (by kernel_rfl) hfr (fun r w => by kernel_rfl) (fun r => by kernel_rfl) (Drawn.refl w) (fun _ => (Drawn.refl w).drew) trivial fun fr3 w3 hw3 hfr3 => ?_
  have hW3 := hW.drawn hw3
  have hb3 := hw3.below hbel
  clear hW hbel hw3
  by_cases hlt : k < m
  · have hle : decide ((64 : Int) ≤ (l : Int)) = true := decide_eq_true (by omega)
    refine wp_cond_true ((hfr3.nth 8 rfl).trans (by rw [hle])) (wp_skip ?_)
    show Code.wp _ _ _ _ _
    obtain ⟨rfl, hlc⟩ := hA hlt
    obtain ⟨o', ho'⟩ : ∃ o', o' = o + 64 * k := ⟨_, rfl⟩
    rw [← ho'] at hfr3
    obtain ⟨ib, hib⟩ : ∃ ib, ib = 64 * k := ⟨_, rfl⟩
    have hl64 : 64 ≤ l := by omega
    have hby : ∀ q, q < 64 → w0.cell? ⟨B, o' + q, none⟩ = some (B8 (bs.getD (ib + q) 0)) := fun q hq => by
      have h := hb (64 * k + q) (by omega)
      rw [← Nat.add_assoc, ← ho'] at h
      rw [h, hib]
      simp [List.getD, show 64 * k + q < bs.length by omega]
    obtain ⟨ws, hws⟩ : ∃ ws, ws = wordsS bs ib := ⟨_, rfl⟩
    refine wp_block ?_
    refine wp_seq ?_
    refine seq_quiet (Drawn w3) 397 _ [(.int .i64 0)] [none] [0, 1, 4, 5, 6, 7, 8, 9, 10] [(.pointer (some ⟨g, 0, none⟩)), (.slice (some ⟨B, o', none⟩) l c'), (.pointer (some ⟨gw, 0, none⟩)), (.int .u32 HA), (.int .u32 HB), (.int .u32 HC), (.int .u32 HD), (.int .u32 HE), (.int .i64 0)] hm (by kernel_rfl) (by kernel_rfl) hfr3 (fun r w => by kernel_rfl) (fun r => by kernel_rfl) (Drawn.refl w3) (fun _ => (Drawn.refl w3).drew) trivial fun fr4 w4 hw4 hfr4 => ?_
    refine wp_mono (Q := fun e a w => e = .normal ∧ WS w gw ((List.range 16).map ws) ∧ Below gw w0 w ∧ Fr 397 [(0, (.pointer (some ⟨g, 0, none⟩))), (1, (.slice (some ⟨B, o', none⟩) l c')), (4, (.pointer (some ⟨gw, 0, none⟩))), (5, (.int .u32 HA)), (6, (.int .u32 HB)), (7, (.int .u32 HC)), (8, (.int .u32 HD)), (9, (.int .u32 HE))] a) ?_ ?_
    · refine wp_block (wp_loop (fun a w => ∃ (j : Nat) (W : List Int), j ≤ 16 ∧ WS w gw W ∧ (∀ q, q < j → W.getD q 0 = ws q) ∧ Below gw w0 w ∧ Fr 397 [(0, (.pointer (some ⟨g, 0, none⟩))), (1, (.slice (some ⟨B, o', none⟩) l c')), (4, (.pointer (some ⟨gw, 0, none⟩))), (5, (.int .u32 HA)), (6, (.int .u32 HB)), (7, (.int .u32 HC)), (8, (.int .u32 HD)), (9, (.int .u32 HE)), (10, (.int .i64 ((j : Nat) : Int)))] a) (MeasS 10 16) ⟨0, W, Nat.zero_le _, hW3.drawn hw4, (fun q hq => absurd hq (Nat.not_lt_zero q)), hw4.below hb3, hfr4⟩ ?_)
      clear hfr4 hfr3 hw4 hb3 hW3 hfr
      rintro fr w ⟨j, W, hj, hW, hpre, hbel, hfr⟩
      refine wp_seq ?_
      refine seq_quiet (Drawn w) 397 _ [(.int .i64 (j : Int)), (.bool (decide ((j : Int) < 16)))] [none, none] [0, 1, 4, 5, 6, 7, 8, 9, 10, 61] [(.pointer (some ⟨g, 0, none⟩)), (.slice (some ⟨B, o', none⟩) l c'), (.pointer (some ⟨gw, 0, none⟩)), (.int .u32 HA), (.int .u32 HB), (.int .u32 HC), (.int .u32 HD), (.int .u32 HE), (.int .i64 (j : Int)), (.bool (decide ((j : Int) < 16)))] hm (by kernel_rfl) (by kernel_rfl) hfr (fun r w => by kernel_rfl) (fun r => by kernel_rfl) (Drawn.refl w) (fun _ => (Drawn.refl w).drew) trivial fun fr5 w5 hw5 hfr5 => ?_
      have hW5 := hW.drawn hw5
      have hb5 := hw5.below hbel
      by_cases hlt2 : j < 16
      · have hle2 : decide ((j : Int) < 16) = true := decide_eq_true (by omega)
        refine wp_cond_true ((hfr5.nth 9 rfl).trans (by rw [hle2])) (wp_skip ?_)
        show Code.wp _ _ _ _ _
        refine wp_seq (wp_block ?_)
        refine seq_quiet (Drawn w5) 397 _ [(.int .i64 (j : Int)), (.int .i64 (IntKind.i64.wrap ((j : Int) * 4))), (.int .i64 (IntKind.i64.wrap ((j : Int) * 4)))] [none, none, none] [0, 1, 4, 5, 6, 7, 8, 9, 10, 11] [(.pointer (some ⟨g, 0, none⟩)), (.slice (some ⟨B, o', none⟩) l c'), (.pointer (some ⟨gw, 0, none⟩)), (.int .u32 HA), (.int .u32 HB), (.int .u32 HC), (.int .u32 HD), (.int .u32 HE), (.int .i64 (j : Int)), (.int .i64 (IntKind.i64.wrap ((j : Int) * 4)))] hm (by kernel_rfl) (by kernel_rfl) hfr5 (fun r w => by kernel_rfl) (fun r => by kernel_rfl) (Drawn.refl w5) (fun _ => (Drawn.refl w5).drew) trivial fun fr6 w6 hw6 hfr6 => ?_
        rw [Go.IntWalk.i64_in ((j : Int) * 4) (by omega)] at hfr6
        have hW6 := hW5.drawn hw6
        have hb6 := hw6.below hb5
        have hcb : ∀ q, q < 64 → w6.cell? ⟨B, o' + q, none⟩ = some (B8 (bs.getD (ib + q) 0)) := fun q hq => (hb6.cell (p := ⟨B, o' + q, none⟩) hB).trans (hby q hq)
        have hwj : be4 (bs.getD (ib + 4 * j) 0) (bs.getD (ib + (4 * j + 1)) 0) (bs.getD (ib + (4 * j + 2)) 0) (bs.getD (ib + (4 * j + 3)) 0) = ws j := by rw [hws]; rfl
        have hd0 := hcb (4 * j) (by omega)
        have hd1 := hcb (4 * j + 1) (by omega)
        have hd2 := hcb (4 * j + 2) (by omega)
        have hd3 := hcb (4 * j + 3) (by omega)
        obtain ⟨x0, hx0⟩ : ∃ x, x = bs.getD (ib + 4 * j) 0 := ⟨_, rfl⟩
        obtain ⟨x1, hx1⟩ : ∃ x, x = bs.getD (ib + (4 * j + 1)) 0 := ⟨_, rfl⟩
        obtain ⟨x2, hx2⟩ : ∃ x, x = bs.getD (ib + (4 * j + 2)) 0 := ⟨_, rfl⟩
        obtain ⟨x3, hx3⟩ : ∃ x, x = bs.getD (ib + (4 * j + 3)) 0 := ⟨_, rfl⟩
        rw [← hx0, ← hx1, ← hx2, ← hx3] at hwj
        rw [← hx0] at hd0
        rw [← hx1, ← Nat.add_assoc] at hd1
        rw [← hx2, ← Nat.add_assoc] at hd2
        rw [← hx3, ← Nat.add_assoc] at hd3
        obtain ⟨ad, had⟩ : ∃ ad, ad = o' + 4 * j := ⟨_, rfl⟩
        rw [← had] at hd0 hd1 hd2 hd3
        have hib0 := fun w => idxB_run B o' l c' (4 * j) ((j : Int) * 4) (by omega) (by omega) w
        have hib1 := fun w => idxB_run B o' l c' (4 * j + 1) (IntKind.i64.wrap ((j : Int) * 4 + 1)) (by rw [Go.IntWalk.i64_in _ (by omega)]; omega) (by omega) w
        have hib2 := fun w => idxB_run B o' l c' (4 * j + 2) (IntKind.i64.wrap ((j : Int) * 4 + 2)) (by rw [Go.IntWalk.i64_in _ (by omega)]; omega) (by omega) w
        have hib3 := fun w => idxB_run B o' l c' (4 * j + 3) (IntKind.i64.wrap ((j : Int) * 4 + 3)) (by rw [Go.IntWalk.i64_in _ (by omega)]; omega) (by omega) w
        rw [← had] at hib0
        rw [← Nat.add_assoc, ← had] at hib1 hib2 hib3
        refine reg_write 32 397 [(0, (.pointer (some ⟨g, 0, none⟩))), (1, (.slice (some ⟨B, o', none⟩) l c')), (4, (.pointer (some ⟨gw, 0, none⟩))), (5, (.int .u32 HA)), (6, (.int .u32 HB)), (7, (.int .u32 HC)), (8, (.int .u32 HD)), (9, (.int .u32 HE)), (10, (.int .i64 (j : Int))), (11, (.int .i64 ((j : Int) * 4)))] (fun q => [(.int .i64 (j : Int)), (.slice (some ⟨B, o', none⟩) l c'), (.int .i64 ((j : Int) * 4)), (.pointer (some ⟨B, ad, none⟩)), (.int .u8 (x0.toNat : Int)), (.int .u32 (IntKind.u32.wrap (x0.toNat : Int))), (.int .u32 (SH (IntKind.u32.wrap (x0.toNat : Int)) 24)), (.slice (some ⟨B, o', none⟩) l c'), (.int .i64 ((j : Int) * 4)), (.int .i64 (IntKind.i64.wrap (((j : Int) * 4) + 1))), (.pointer (some ⟨B, ad + 1, none⟩)), (.int .u8 (x1.toNat : Int)), (.int .u32 (IntKind.u32.wrap (x1.toNat : Int))), (.int .u32 (SH (IntKind.u32.wrap (x1.toNat : Int)) 16)), (.int .u32 (O32 (SH (IntKind.u32.wrap (x0.toNat : Int)) 24) (SH (IntKind.u32.wrap (x1.toNat : Int)) 16))), (.slice (some ⟨B, o', none⟩) l c'), (.int .i64 ((j : Int) * 4)), (.int .i64 (IntKind.i64.wrap (((j : Int) * 4) + 2))), (.pointer (some ⟨B, ad + 2, none⟩)), (.int .u8 (x2.toNat : Int)), (.int .u32 (IntKind.u32.wrap (x2.toNat : Int))), (.int .u32 (SH (IntKind.u32.wrap (x2.toNat : Int)) 8)), (.int .u32 (O32 (O32 (SH (IntKind.u32.wrap (x0.toNat : Int)) 24) (SH (IntKind.u32.wrap (x1.toNat : Int)) 16)) (SH (IntKind.u32.wrap (x2.toNat : Int)) 8))), (.slice (some ⟨B, o', none⟩) l c'), (.int .i64 ((j : Int) * 4)), (.int .i64 (IntKind.i64.wrap (((j : Int) * 4) + 3))), (.pointer (some ⟨B, ad + 3, none⟩)), (.int .u8 (x3.toNat : Int)), (.int .u32 (IntKind.u32.wrap (x3.toNat : Int))), (.int .u32 (O32 (O32 (O32 (SH (IntKind.u32.wrap (x0.toNat : Int)) 24) (SH (IntKind.u32.wrap (x1.toNat : Int)) 16)) (SH (IntKind.u32.wrap (x2.toNat : Int)) 8)) (IntKind.u32.wrap (x3.toNat : Int)))), (.pointer (some ⟨gw, j, none⟩)), undef].getD q undef) (LdW gw W j (be4 x0 x1 x2 x3) w0 B ad x0 x1 x2 x3) [0, 1, 2, 3, 4, 5, 6, 7, 8, 9, 10, 11, 12, 13, 14, 15, 16, 17, 18, 19, 20, 21, 22, 23, 24, 25, 26, 27, 28, 29, 30, 31] hm (by kernel_rfl) (by kernel_rfl) (by kernel_rfl) (by kernel_rfl) hfr6 ?_ ?_ ?_
        · exact ⟨by rw [getD_replicate_false]; exact hW6, below_drewN hb6 1, hd0, hd1, hd2, hd3⟩
        · refine ⟨?_, ?_, ?_, ?_, ?_, ?_, ?_, ?_, ?_, ?_, ?_, ?_, ?_, ?_, ?_, ?_, ?_, ?_, ?_, ?_, ?_, ?_, ?_, ?_, ?_, ?_, ?_, ?_, ?_, ?_, ?_, ?_, trivial⟩
          · exact ⟨_, [], rfl, rfl, by kernel_rfl, fun r listed w' hsz hun hS => ⟨.value (.int .i64 (j : Int)), w', by kernel_rfl, .inl rfl, hS.other 0 (by decide)⟩⟩
          · exact ⟨_, [], rfl, rfl, by kernel_rfl, fun r listed w' hsz hun hS => ⟨.value (.slice (some ⟨B, o', none⟩) l c'), w', by kernel_rfl, .inl rfl, hS.other 1 (by decide)⟩⟩
          · exact ⟨_, [], rfl, rfl, by kernel_rfl, fun r listed w' hsz hun hS => ⟨.value (.int .i64 ((j : Int) * 4)), w', by kernel_rfl, .inl rfl, hS.other 2 (by decide)⟩⟩
          · exact ⟨_, [1, 2], rfl, rfl, by kernel_rfl, fun r listed w' hsz hun hS => ⟨.value (.pointer (some ⟨B, ad, none⟩)), w', index_run rfl (X := (.slice (some ⟨B, o', none⟩) l c')) (I := (.int .i64 ((j : Int) * 4))) (by kernel_rfl) (by kernel_rfl) (hib0 w'), .inl rfl, hS.other 3 (by decide)⟩⟩
          · exact ⟨_, [3], rfl, rfl, by kernel_rfl, fun r listed w' hsz hun hS => ⟨.value (.int .u8 (x0.toNat : Int)), w', load_run (b := B) (k := ad) rfl (by kernel_rfl) (LdW.c0 hS) Try.underlying5 rfl, .inl rfl, hS.other 4 (by decide)⟩⟩
          · exact ⟨_, [4], rfl, rfl, by kernel_rfl, fun r listed w' hsz hun hS => ⟨.value (.int .u32 (IntKind.u32.wrap (x0.toNat : Int))), w', by kernel_rfl, .inl rfl, hS.other 5 (by decide)⟩⟩
          · exact ⟨_, [5], rfl, rfl, by kernel_rfl, fun r listed w' hsz hun hS => ⟨.value (.int .u32 (SH (IntKind.u32.wrap (x0.toNat : Int)) 24)), w', by kernel_rfl, .inl rfl, hS.other 6 (by decide)⟩⟩
          · exact ⟨_, [], rfl, rfl, by kernel_rfl, fun r listed w' hsz hun hS => ⟨.value (.slice (some ⟨B, o', none⟩) l c'), w', by kernel_rfl, .inl rfl, hS.other 7 (by decide)⟩⟩
          · exact ⟨_, [], rfl, rfl, by kernel_rfl, fun r listed w' hsz hun hS => ⟨.value (.int .i64 ((j : Int) * 4)), w', by kernel_rfl, .inl rfl, hS.other 8 (by decide)⟩⟩
          · exact ⟨_, [8], rfl, rfl, by kernel_rfl, fun r listed w' hsz hun hS => ⟨.value (.int .i64 (IntKind.i64.wrap (((j : Int) * 4) + 1))), w', by kernel_rfl, .inl rfl, hS.other 9 (by decide)⟩⟩
          · exact ⟨_, [7, 9], rfl, rfl, by kernel_rfl, fun r listed w' hsz hun hS => ⟨.value (.pointer (some ⟨B, ad + 1, none⟩)), w', index_run rfl (X := (.slice (some ⟨B, o', none⟩) l c')) (I := (.int .i64 (IntKind.i64.wrap (((j : Int) * 4) + 1)))) (by kernel_rfl) (by kernel_rfl) (hib1 w'), .inl rfl, hS.other 10 (by decide)⟩⟩
          · exact ⟨_, [10], rfl, rfl, by kernel_rfl, fun r listed w' hsz hun hS => ⟨.value (.int .u8 (x1.toNat : Int)), w', load_run (b := B) (k := ad + 1) rfl (by kernel_rfl) (LdW.c1 hS) Try.underlying5 rfl, .inl rfl, hS.other 11 (by decide)⟩⟩
          · exact ⟨_, [11], rfl, rfl, by kernel_rfl, fun r listed w' hsz hun hS => ⟨.value (.int .u32 (IntKind.u32.wrap (x1.toNat : Int))), w', by kernel_rfl, .inl rfl, hS.other 12 (by decide)⟩⟩
          · exact ⟨_, [12], rfl, rfl, by kernel_rfl, fun r listed w' hsz hun hS => ⟨.value (.int .u32 (SH (IntKind.u32.wrap (x1.toNat : Int)) 16)), w', by kernel_rfl, .inl rfl, hS.other 13 (by decide)⟩⟩
          · exact ⟨_, [6, 13], rfl, rfl, by kernel_rfl, fun r listed w' hsz hun hS => ⟨.value (.int .u32 (O32 (SH (IntKind.u32.wrap (x0.toNat : Int)) 24) (SH (IntKind.u32.wrap (x1.toNat : Int)) 16))), w', by kernel_rfl, .inl rfl, hS.other 14 (by decide)⟩⟩
          · exact ⟨_, [], rfl, rfl, by kernel_rfl, fun r listed w' hsz hun hS => ⟨.value (.slice (some ⟨B, o', none⟩) l c'), w', by kernel_rfl, .inl rfl, hS.other 15 (by decide)⟩⟩
          · exact ⟨_, [], rfl, rfl, by kernel_rfl, fun r listed w' hsz hun hS => ⟨.value (.int .i64 ((j : Int) * 4)), w', by kernel_rfl, .inl rfl, hS.other 16 (by decide)⟩⟩
          · exact ⟨_, [16], rfl, rfl, by kernel_rfl, fun r listed w' hsz hun hS => ⟨.value (.int .i64 (IntKind.i64.wrap (((j : Int) * 4) + 2))), w', by kernel_rfl, .inl rfl, hS.other 17 (by decide)⟩⟩
          · exact ⟨_, [15, 17], rfl, rfl, by kernel_rfl, fun r listed w' hsz hun hS => ⟨.value (.pointer (some ⟨B, ad + 2, none⟩)), w', index_run rfl (X := (.slice (some ⟨B, o', none⟩) l c')) (I := (.int .i64 (IntKind.i64.wrap (((j : Int) * 4) + 2)))) (by kernel_rfl) (by kernel_rfl) (hib2 w'), .inl rfl, hS.other 18 (by decide)⟩⟩
          · exact ⟨_, [18], rfl, rfl, by kernel_rfl, fun r listed w' hsz hun hS => ⟨.value (.int .u8 (x2.toNat : Int)), w', load_run (b := B) (k := ad + 2) rfl (by kernel_rfl) (LdW.c2 hS) Try.underlying5 rfl, .inl rfl, hS.other 19 (by decide)⟩⟩
          · exact ⟨_, [19], rfl, rfl, by kernel_rfl, fun r listed w' hsz hun hS => ⟨.value (.int .u32 (IntKind.u32.wrap (x2.toNat : Int))), w', by kernel_rfl, .inl rfl, hS.other 20 (by decide)⟩⟩
          · exact ⟨_, [20], rfl, rfl, by kernel_rfl, fun r listed w' hsz hun hS => ⟨.value (.int .u32 (SH (IntKind.u32.wrap (x2.toNat : Int)) 8)), w', by kernel_rfl, .inl rfl, hS.other 21 (by decide)⟩⟩
          · exact ⟨_, [14, 21], rfl, rfl, by kernel_rfl, fun r listed w' hsz hun hS => ⟨.value (.int .u32 (O32 (O32 (SH (IntKind.u32.wrap (x0.toNat : Int)) 24) (SH (IntKind.u32.wrap (x1.toNat : Int)) 16)) (SH (IntKind.u32.wrap (x2.toNat : Int)) 8))), w', by kernel_rfl, .inl rfl, hS.other 22 (by decide)⟩⟩
          · exact ⟨_, [], rfl, rfl, by kernel_rfl, fun r listed w' hsz hun hS => ⟨.value (.slice (some ⟨B, o', none⟩) l c'), w', by kernel_rfl, .inl rfl, hS.other 23 (by decide)⟩⟩
          · exact ⟨_, [], rfl, rfl, by kernel_rfl, fun r listed w' hsz hun hS => ⟨.value (.int .i64 ((j : Int) * 4)), w', by kernel_rfl, .inl rfl, hS.other 24 (by decide)⟩⟩
          · exact ⟨_, [24], rfl, rfl, by kernel_rfl, fun r listed w' hsz hun hS => ⟨.value (.int .i64 (IntKind.i64.wrap (((j : Int) * 4) + 3))), w', by kernel_rfl, .inl rfl, hS.other 25 (by decide)⟩⟩
          · exact ⟨_, [23, 25], rfl, rfl, by kernel_rfl, fun r listed w' hsz hun hS => ⟨.value (.pointer (some ⟨B, ad + 3, none⟩)), w', index_run rfl (X := (.slice (some ⟨B, o', none⟩) l c')) (I := (.int .i64 (IntKind.i64.wrap (((j : Int) * 4) + 3)))) (by kernel_rfl) (by kernel_rfl) (hib3 w'), .inl rfl, hS.other 26 (by decide)⟩⟩
          · exact ⟨_, [26], rfl, rfl, by kernel_rfl, fun r listed w' hsz hun hS => ⟨.value (.int .u8 (x3.toNat : Int)), w', load_run (b := B) (k := ad + 3) rfl (by kernel_rfl) (LdW.c3 hS) Try.underlying5 rfl, .inl rfl, hS.other 27 (by decide)⟩⟩
          · exact ⟨_, [27], rfl, rfl, by kernel_rfl, fun r listed w' hsz hun hS => ⟨.value (.int .u32 (IntKind.u32.wrap (x3.toNat : Int))), w', by kernel_rfl, .inl rfl, hS.other 28 (by decide)⟩⟩
          · exact ⟨_, [22, 28], rfl, rfl, by kernel_rfl, fun r listed w' hsz hun hS => ⟨.value (.int .u32 (O32 (O32 (O32 (SH (IntKind.u32.wrap (x0.toNat : Int)) 24) (SH (IntKind.u32.wrap (x1.toNat : Int)) 16)) (SH (IntKind.u32.wrap (x2.toNat : Int)) 8)) (IntKind.u32.wrap (x3.toNat : Int)))), w', by kernel_rfl, .inl rfl, hS.other 29 (by decide)⟩⟩
          · exact ⟨_, [0], rfl, rfl, by kernel_rfl, fun r listed w' hsz hun hS => ⟨.value (.pointer (some ⟨gw, j, none⟩)), w', index_run rfl (X := (.pointer (some ⟨gw, 0, none⟩))) (I := (.int .i64 (j : Int))) (by kernel_rfl) (by kernel_rfl) (idx_item (fun _ => True) gw j (j : Int) ⟨rfl, hlt2⟩ w' trivial), .inl rfl, hS.other 30 (by decide)⟩⟩
          · exact ⟨_, [30, 29], rfl, rfl, by kernel_rfl, fun r listed w' hsz hun hS => ⟨.skip, _, store_run (x := .tmp 96) (y := .tmp 95) (kd := .u32) (n := be4 x0 x1 x2 x3) rfl (by kernel_rfl) (by kernel_rfl) (hS.there hun j hlt2) Try.size32, .inr ⟨rfl, rfl⟩, LdW.store hS hsz hun hB (Nat.le_of_lt hS.1.2.lt)⟩⟩
        · intro fr7 w7 hfr7 listed hall hS
          have hW7 := hS.1
          rw [hall 31 (by decide), if_pos rfl, hwj] at hW7
          have hb7 := hS.2.1
          show Code.wp _ _ _ _ _
          refine last_quiet (Drawn w7) 397 _ [(.int .i64 (j : Int)), (.int .i64 (IntKind.i64.wrap ((j : Int) + 1))), (.int .i64 (IntKind.i64.wrap ((j : Int) + 1)))] [none, none, none] [0, 1, 4, 5, 6, 7, 8, 9, 10] [(.pointer (some ⟨g, 0, none⟩)), (.slice (some ⟨B, o', none⟩) l c'), (.pointer (some ⟨gw, 0, none⟩)), (.int .u32 HA), (.int .u32 HB), (.int .u32 HC), (.int .u32 HD), (.int .u32 HE), (.int .i64 (IntKind.i64.wrap ((j : Int) + 1)))] hm (by kernel_rfl) (by kernel_rfl) hfr7 (fun r w => by kernel_rfl) (fun r => by kernel_rfl) (Drawn.refl w7) (fun _ => (Drawn.refl w7).drew) trivial fun fr8 w8 hw8 hfr8 => ?_
          show _ ∧ _
          rw [Go.IntWalk.i64_in ((j : Int) + 1) (by omega), show (j : Int) + 1 = ((j + 1 : Nat) : Int) by omega] at hfr8
          refine ⟨⟨j + 1, W.set j (ws j), by omega, hW7.drawn hw8, fun q hq => ?_, hw8.below hb7, hfr8⟩, ?_⟩
          · by_cases hqj : q = j
            · subst hqj
              simp [List.getD, show q < W.length by rw [hW.1]; exact hlt2]
            · rw [show (W.set j (ws j)).getD q 0 = W.getD q 0 by simp [List.getD, List.getElem?_set_ne (Ne.symm hqj)]]
              exact hpre q (by omega)
          · unfold MeasS
            rw [show fr8.tmps.getD 10 undef = _ from hfr8.nth 8 rfl, show fr.tmps.getD 10 undef = _ from hfr.nth 8 rfl]
            simp only [intOf]
            omega
      · have hle2 : decide ((j : Int) < 16) = false := decide_eq_false (by omega)
        refine wp_cond_false ((hfr5.nth 9 rfl).trans (by rw [hle2])) (wp_exit ?_)
        show _ ∧ _
        refine ⟨rfl, ?_, hb5, hfr5.sub [0, 1, 2, 3, 4, 5, 6, 7] rfl⟩
        rw [show (List.range 16).map ws = W from List.ext_getElem (by rw [hW.1]; simp) fun q h1 h2 => by
          have h16 : q < 16 := by simpa using h1
          have := hpre q (by omega)
          rw [show W.getD q 0 = W[q] by simp [List.getD, h2]] at this
          rw [this]; simp]
        exact hW5
    · rintro e fr9 w9 ⟨rfl, hW9, hb9, hfr9⟩
      show Code.wp _ _ _ _ _
      clear hfr4 hfr3 hw4 hb3 hW3 hfr
      refine seq_quiet (Drawn w9) 397 _ [(.int .u32 HA), (.int .u32 HB), (.int .u32 HC), (.int .u32 HD), (.int .u32 HE), (.int .u32 HA), (.int .u32 HB), (.int .u32 HC), (.int .u32 HD), (.int .u32 HE)] [none, none, none, none, none, none, none, none, none, none] [0, 1, 4, 5, 6, 7, 8, 9, 12, 13, 14, 15, 16] [(.pointer (some ⟨g, 0, none⟩)), (.slice (some ⟨B, o', none⟩) l c'), (.pointer (some ⟨gw, 0, none⟩)), (.int .u32 HA), (.int .u32 HB), (.int .u32 HC), (.int .u32 HD), (.int .u32 HE), (.int .u32 HA), (.int .u32 HB), (.int .u32 HC), (.int .u32 HD), (.int .u32 HE)] hm (by kernel_rfl) (by kernel_rfl) hfr9 (fun r w => by kernel_rfl) (fun r => by kernel_rfl) (Drawn.refl w9) (fun _ => (Drawn.refl w9).drew) trivial fun fr10 w10 hw10 hfr10 => ?_
      refine seq_quiet (Drawn w10) 397 _ [(.int .i64 0)] [none] [0, 1, 4, 5, 6, 7, 8, 9, 12, 13, 14, 15, 16, 17] [(.pointer (some ⟨g, 0, none⟩)), (.slice (some ⟨B, o', none⟩) l c'), (.pointer (some ⟨gw, 0, none⟩)), (.int .u32 HA), (.int .u32 HB), (.int .u32 HC), (.int .u32 HD), (.int .u32 HE), (.int .u32 HA), (.int .u32 HB), (.int .u32 HC), (.int .u32 HD), (.int .u32 HE), (.int .i64 0)] hm (by kernel_rfl) (by kernel_rfl) hfr10 (fun r w => by kernel_rfl) (fun r => by kernel_rfl) (Drawn.refl w10) (fun _ => (Drawn.refl w10).drew) trivial fun fr11 w11 hw11 hfr11 => ?_
      have hW11 := (hW9.drawn hw10).drawn hw11
      have hb11 := hw11.below (hw10.below hb9)
      obtain ⟨X0, hX0⟩ : ∃ X0 : S5 × List Int, X0 = ((HA, HB, HC, HD, HE), (List.range 16).map ws) := ⟨_, rfl⟩
      have hR0 : runS X0 0 = ((HA, HB, HC, HD, HE), (List.range 16).map ws) := hX0
      clear hfr9 hfr10 hw10 hw11 hW9 hb9
      refine wp_seq (wp_mono (Q := fun e a w => e = .normal ∧ ∃ T : S5 × List Int, runS X0 16 = T ∧ WS w gw T.2 ∧ Below gw w0 w ∧ Fr 397 [(0, (.pointer (some ⟨g, 0, none⟩))), (1, (.slice (some ⟨B, o', none⟩) l c')), (4, (.pointer (some ⟨gw, 0, none⟩))), (5, (.int .u32 HA)), (6, (.int .u32 HB)), (7, (.int .u32 HC)), (8, (.int .u32 HD)), (9, (.int .u32 HE)), (12, (.int .u32 T.1.1)), (13, (.int .u32 T.1.2.1)), (14, (.int .u32 T.1.2.2.1)), (15, (.int .u32 T.1.2.2.2.1)), (16, (.int .u32 T.1.2.2.2.2)), (17, (.int .i64 ((16 : Nat) : Int)))] a) ?_ ?_)
      · refine wp_block (wp_loop (fun a w => ∃ (i : Nat) (T : S5 × List Int), 0 ≤ i ∧ i ≤ 16 ∧ runS X0 i = T ∧ WS w gw T.2 ∧ Below gw w0 w ∧ Fr 397 [(0, (.pointer (some ⟨g, 0, none⟩))), (1, (.slice (some ⟨B, o', none⟩) l c')), (4, (.pointer (some ⟨gw, 0, none⟩))), (5, (.int .u32 HA)), (6, (.int .u32 HB)), (7, (.int .u32 HC)), (8, (.int .u32 HD)), (9, (.int .u32 HE)), (12, (.int .u32 T.1.1)), (13, (.int .u32 T.1.2.1)), (14, (.int .u32 T.1.2.2.1)), (15, (.int .u32 T.1.2.2.2.1)), (16, (.int .u32 T.1.2.2.2.2)), (17, (.int .i64 ((i : Nat) : Int)))] a) (MeasS 17 16) ⟨0, _, Nat.le_refl _, by decide, hR0, hW11, hb11, hfr11⟩ ?_)
        rintro fr w ⟨i, ⟨⟨a, b, c1, d, e1⟩, W⟩, hlo, hhi, hT, hW, hbel, hfr⟩
        refine wp_seq ?_
        refine seq_quiet (Drawn w) 397 _ [(.int .i64 (i : Int)), (.bool (decide ((i : Int) < 16)))] [none, none] [0, 1, 4, 5, 6, 7, 8, 9, 12, 13, 14, 15, 16, 17, 103] [(.pointer (some ⟨g, 0, none⟩)), (.slice (some ⟨B, o', none⟩) l c'), (.pointer (some ⟨gw, 0, none⟩)), (.int .u32 HA), (.int .u32 HB), (.int .u32 HC), (.int .u32 HD), (.int .u32 HE), (.int .u32 a), (.int .u32 b), (.int .u32 c1), (.int .u32 d), (.int .u32 e1), (.int .i64 (i : Int)), (.bool (decide ((i : Int) < 16)))] hm (by kernel_rfl) (by kernel_rfl) hfr (fun r w => by kernel_rfl) (fun r => by kernel_rfl) (Drawn.refl w) (fun _ => (Drawn.refl w).drew) trivial fun f1 w1 hw1 hf1 => ?_
        have hW1 : WS w1 gw W := WS.drawn hW hw1
        have hb1 := hw1.below hbel
        by_cases hlt2 : i < 16
        · have hle2 : decide ((i : Int) < 16) = true := decide_eq_true (by omega)
          refine wp_cond_true ((hf1.nth 14 rfl).trans (by rw [hle2])) (wp_skip ?_)
          show Code.wp _ _ _ _ _
          refine wp_seq (wp_block ?_)
          have hq0 : bits .and .i64 (i : Int) 15 = ((i % 16 : Nat) : Int) ∧ i % 16 < 16 := ⟨ix15 i _ rfl (by omega), Nat.mod_lt _ (by decide)⟩
          refine seq_quiet (Drawn w1) 397 _ [(.int .u32 b), (.int .u32 c1), (.int .u32 (N32 b c1)), (.int .u32 b), (.int .u32 (V32 b)), (.int .u32 d), (.int .u32 (N32 (V32 b) d)), (.int .u32 (O32 (N32 b c1) (N32 (V32 b) d))), (.int .u32 (O32 (N32 b c1) (N32 (V32 b) d)))] [none, none, none, none, none, none, none, none, none] [0, 1, 4, 5, 6, 7, 8, 9, 12, 13, 14, 15, 16, 17, 18] [(.pointer (some ⟨g, 0, none⟩)), (.slice (some ⟨B, o', none⟩) l c'), (.pointer (some ⟨gw, 0, none⟩)), (.int .u32 HA), (.int .u32 HB), (.int .u32 HC), (.int .u32 HD), (.int .u32 HE), (.int .u32 a), (.int .u32 b), (.int .u32 c1), (.int .u32 d), (.int .u32 e1), (.int .i64 (i : Int)), (.int .u32 (O32 (N32 b c1) (N32 (V32 b) d)))] hm (by kernel_rfl) (by kernel_rfl) hf1 (fun r w => by kernel_rfl) (fun r => by kernel_rfl) (Drawn.refl w1) (fun _ => (Drawn.refl w1).drew) trivial fun f2 w2 hw2 hf2 => ?_
          have hW2 : WS w2 gw W := WS.drawn hW1 hw2
          have hb2 := hw2.below hb1
          obtain ⟨nt, hnt⟩ : ∃ z, z = (A32 (A32 (A32 (A32 (rotI a 5) (O32 (N32 b c1) (N32 (V32 b) d))) e1) (W.getD (i % 16) 0)) 1518500249) := ⟨_, rfl⟩
          refine seq_quiet (Drawn w2) 397 _ [(.int .u32 a), (.int .u32 (rotI a 5)), (.int .u32 (O32 (N32 b c1) (N32 (V32 b) d))), (.int .u32 (A32 (rotI a 5) (O32 (N32 b c1) (N32 (V32 b) d)))), (.int .u32 e1), (.int .u32 (A32 (A32 (rotI a 5) (O32 (N32 b c1) (N32 (V32 b) d))) e1)), (.int .i64 (i : Int)), (.int .i64 (bits .and .i64 (i : Int) 15)), (.pointer (some ⟨gw, (i % 16), none⟩)), (.int .u32 (W.getD (i % 16) 0)), (.int .u32 (A32 (A32 (A32 (rotI a 5) (O32 (N32 b c1) (N32 (V32 b) d))) e1) (W.getD (i % 16) 0))), (.int .u32 (A32 (A32 (A32 (A32 (rotI a 5) (O32 (N32 b c1) (N32 (V32 b) d))) e1) (W.getD (i % 16) 0)) 1518500249)), (.int .u32 (A32 (A32 (A32 (A32 (rotI a 5) (O32 (N32 b c1) (N32 (V32 b) d))) e1) (W.getD (i % 16) 0)) 1518500249))] [none, some (.call 36 #[(.int .u32 a), .int .i64 5] (.int .u32 (rotI a 5))), none, none, none, none, none, none, some (.sem (Instr.indexAt 90 (.pointer (some ⟨gw, 0, none⟩)) (.int .i64 (bits .and .i64 (i : Int) 15))) (.pointer (some ⟨gw, (i % 16), none⟩))), some (.sem (Instr.loadAt 52 (.pointer (some ⟨gw, (i % 16), none⟩))) (.int .u32 (W.getD (i % 16) 0))), none, none, none] [0, 1, 4, 5, 6, 7, 8, 9, 12, 13, 14, 15, 16, 17, 19] [(.pointer (some ⟨g, 0, none⟩)), (.slice (some ⟨B, o', none⟩) l c'), (.pointer (some ⟨gw, 0, none⟩)), (.int .u32 HA), (.int .u32 HB), (.int .u32 HC), (.int .u32 HD), (.int .u32 HE), (.int .u32 a), (.int .u32 b), (.int .u32 c1), (.int .u32 d), (.int .u32 e1), (.int .i64 (i : Int)), (.int .u32 nt)] hm (by kernel_rfl) (by kernel_rfl) hf2 (fun r w => by kernel_rfl) (fun r => by rw [hnt]; kernel_rfl) (Drawn.refl w2) (fun _ => (Drawn.refl w2).drew) ⟨rot_item _ _ 5 (by decide) (by decide) _ rfl, idx_item _ gw (i % 16) _ hq0, load_item (WS.cell hW2 (i % 16) (Nat.mod_lt _ (by decide))) Try.underlying52 rfl, trivial⟩ fun f3 w3 hw3 hf3 => ?_
          have hW3 : WS w3 gw W := WS.drawn hW2 hw3
          have hb3 := hw3.below hb2
          refine last_quiet (Drawn w3) 397 _ [(.int .u32 nt), (.int .u32 a), (.int .u32 b), (.int .u32 (rotI b 30)), (.int .u32 c1), (.int .u32 d), (.int .u32 nt), (.int .u32 a), (.int .u32 (rotI b 30)), (.int .u32 c1), (.int .u32 d)] [none, none, none, some (.call 36 #[(.int .u32 b), .int .i64 30] (.int .u32 (rotI b 30))), none, none, none, none, none, none, none] [0, 1, 4, 5, 6, 7, 8, 9, 12, 13, 14, 15, 16, 17] [(.pointer (some ⟨g, 0, none⟩)), (.slice (some ⟨B, o', none⟩) l c'), (.pointer (some ⟨gw, 0, none⟩)), (.int .u32 HA), (.int .u32 HB), (.int .u32 HC), (.int .u32 HD), (.int .u32 HE), (.int .u32 nt), (.int .u32 a), (.int .u32 (rotI b 30)), (.int .u32 c1), (.int .u32 d), (.int .i64 (i : Int))] hm (by kernel_rfl) (by kernel_rfl) hf3 (fun r w => by kernel_rfl) (fun r => by kernel_rfl) (Drawn.refl w3) (fun _ => (Drawn.refl w3).drew) ⟨rot_item _ _ 30 (by decide) (by decide) _ rfl, trivial⟩ fun f4 w4 hw4 hf4 => ?_
          have hW4 : WS w4 gw W := WS.drawn hW3 hw4
          have hb4 := hw4.below hb3
          show Code.wp _ _ _ _ _
          refine last_quiet (Drawn w4) 397 _ [(.int .i64 (i : Int)), (.int .i64 (IntKind.i64.wrap ((i : Int) + 1))), (.int .i64 (IntKind.i64.wrap ((i : Int) + 1)))] [none, none, none] [0, 1, 4, 5, 6, 7, 8, 9, 12, 13, 14, 15, 16, 17] [(.pointer (some ⟨g, 0, none⟩)), (.slice (some ⟨B, o', none⟩) l c'), (.pointer (some ⟨gw, 0, none⟩)), (.int .u32 HA), (.int .u32 HB), (.int .u32 HC), (.int .u32 HD), (.int .u32 HE), (.int .u32 nt), (.int .u32 a), (.int .u32 (rotI b 30)), (.int .u32 c1), (.int .u32 d), (.int .i64 (IntKind.i64.wrap ((i : Int) + 1)))] hm (by kernel_rfl) (by kernel_rfl) hf4 (fun r w => by kernel_rfl) (fun r => by kernel_rfl) (Drawn.refl w4) (fun _ => (Drawn.refl w4).drew) trivial fun f5 w5 hw5 hf5 => ?_
          show _ ∧ _
          rw [Go.IntWalk.i64_in ((i : Int) + 1) (by omega), show (i : Int) + 1 = ((i + 1 : Nat) : Int) by omega] at hf5
          have hst : runS X0 (i + 1) = ((nt, a, rotI b 30, c1, d), W) := by
            rw [phS_step X0 i 0 _ hT (by unfold phS; rw [if_pos (by omega)])]
            rw [hnt]
            rfl
          refine ⟨⟨i + 1, _, by omega, by omega, hst, hW4.drawn hw5, hw5.below hb4, hf5⟩, ?_⟩
          unfold MeasS
          rw [show f5.tmps.getD 17 undef = _ from hf5.nth 13 rfl, show fr.tmps.getD 17 undef = _ from hfr.nth 13 rfl]
          simp only [intOf]
          omega
        · have hle2 : decide ((i : Int) < 16) = false := decide_eq_false (by omega)
          refine wp_cond_false ((hf1.nth 14 rfl).trans (by rw [hle2])) (wp_exit ?_)
          show _ ∧ _
          obtain rfl : i = 16 := by omega
          exact ⟨rfl, _, hT, hW1, hb1, hf1.sub [0, 1, 2, 3, 4, 5, 6, 7, 8, 9, 10, 11, 12, 13] rfl⟩
      · clear hfr11 hW11 hb11 hR0
        rintro e fr16x w16x ⟨rfl, T, hR16, hW16x, hb16x, hf16x⟩
        show Code.wp _ _ _ _ _
        refine wp_seq (wp_mono (Q := fun e a w => e = .normal ∧ ∃ T : S5 × List Int, runS X0 20 = T ∧ WS w gw T.2 ∧ Below gw w0 w ∧ Fr 397 [(0, (.pointer (some ⟨g, 0, none⟩))), (1, (.slice (some ⟨B, o', none⟩) l c')), (4, (.pointer (some ⟨gw, 0, none⟩))), (5, (.int .u32 HA)), (6, (.int .u32 HB)), (7, (.int .u32 HC)), (8, (.int .u32 HD)), (9, (.int .u32 HE)), (12, (.int .u32 T.1.1)), (13, (.int .u32 T.1.2.1)), (14, (.int .u32 T.1.2.2.1)), (15, (.int .u32 T.1.2.2.2.1)), (16, (.int .u32 T.1.2.2.2.2)), (17, (.int .i64 ((20 : Nat) : Int)))] a) ?_ ?_)
        · refine wp_block (wp_loop (fun a w => ∃ (i : Nat) (T : S5 × List Int), 16 ≤ i ∧ i ≤ 20 ∧ runS X0 i = T ∧ WS w gw T.2 ∧ Below gw w0 w ∧ Fr 397 [(0, (.pointer (some ⟨g, 0, none⟩))), (1, (.slice (some ⟨B, o', none⟩) l c')), (4, (.pointer (some ⟨gw, 0, none⟩))), (5, (.int .u32 HA)), (6, (.int .u32 HB)), (7, (.int .u32 HC)), (8, (.int .u32 HD)), (9, (.int .u32 HE)), (12, (.int .u32 T.1.1)), (13, (.int .u32 T.1.2.1)), (14, (.int .u32 T.1.2.2.1)), (15, (.int .u32 T.1.2.2.2.1)), (16, (.int .u32 T.1.2.2.2.2)), (17, (.int .i64 ((i : Nat) : Int)))] a) (MeasS 17 20) ⟨16, _, Nat.le_refl _, by decide, hR16, hW16x, hb16x, hf16x⟩ ?_)
          rintro fr w ⟨i, ⟨⟨a, b, c1, d, e1⟩, W⟩, hlo, hhi, hT, hW, hbel, hfr⟩
          refine wp_seq ?_
          refine seq_quiet (Drawn w) 397 _ [(.int .i64 (i : Int)), (.bool (decide ((i : Int) < 20)))] [none, none] [0, 1, 4, 5, 6, 7, 8, 9, 12, 13, 14, 15, 16, 17, 133] [(.pointer (some ⟨g, 0, none⟩)), (.slice (some ⟨B, o', none⟩) l c'), (.pointer (some ⟨gw, 0, none⟩)), (.int .u32 HA), (.int .u32 HB), (.int .u32 HC), (.int .u32 HD), (.int .u32 HE), (.int .u32 a), (.int .u32 b), (.int .u32 c1), (.int .u32 d), (.int .u32 e1), (.int .i64 (i : Int)), (.bool (decide ((i : Int) < 20)))] hm (by kernel_rfl) (by kernel_rfl) hfr (fun r w => by kernel_rfl) (fun r => by kernel_rfl) (Drawn.refl w) (fun _ => (Drawn.refl w).drew) trivial fun f1 w1 hw1 hf1 => ?_
          have hW1 : WS w1 gw W := WS.drawn hW hw1
          have hb1 := hw1.below hbel
          by_cases hlt2 : i < 20
          · have hle2 : decide ((i : Int) < 20) = true := decide_eq_true (by omega)
            refine wp_cond_true ((hf1.nth 14 rfl).trans (by rw [hle2])) (wp_skip ?_)
            show Code.wp _ _ _ _ _
            refine wp_seq (wp_block ?_)
            have hq0 : bits .and .i64 (i : Int) 15 = ((i % 16 : Nat) : Int) ∧ i % 16 < 16 := ⟨ix15 i _ rfl (by omega), Nat.mod_lt _ (by decide)⟩
            have hq3 : bits .and .i64 (IntKind.i64.wrap ((i : Int) - 3)) 15 = (((i - 3) % 16 : Nat) : Int) ∧ (i - 3) % 16 < 16 := ⟨ix15 (i - 3) _ (by rw [Go.IntWalk.i64_in _ (by omega)]; omega) (by omega), Nat.mod_lt _ (by decide)⟩
            have hq8 : bits .and .i64 (IntKind.i64.wrap ((i : Int) - 8)) 15 = (((i - 8) % 16 : Nat) : Int) ∧ (i - 8) % 16 < 16 := ⟨ix15 (i - 8) _ (by rw [Go.IntWalk.i64_in _ (by omega)]; omega) (by omega), Nat.mod_lt _ (by decide)⟩
            have hq14 : bits .and .i64 (IntKind.i64.wrap ((i : Int) - 14)) 15 = (((i - 14) % 16 : Nat) : Int) ∧ (i - 14) % 16 < 16 := ⟨ix15 (i - 14) _ (by rw [Go.IntWalk.i64_in _ (by omega)]; omega) (by omega), Nat.mod_lt _ (by decide)⟩
            refine seq_quiet (Drawn w1) 397 _ [(.int .i64 (i : Int)), (.int .i64 (IntKind.i64.wrap ((i : Int) - 3))), (.int .i64 (bits .and .i64 (IntKind.i64.wrap ((i : Int) - 3)) 15)), (.pointer (some ⟨gw, ((i - 3) % 16), none⟩)), (.int .u32 (W.getD ((i - 3) % 16) 0)), (.int .i64 (i : Int)), (.int .i64 (IntKind.i64.wrap ((i : Int) - 8))), (.int .i64 (bits .and .i64 (IntKind.i64.wrap ((i : Int) - 8)) 15)), (.pointer (some ⟨gw, ((i - 8) % 16), none⟩)), (.int .u32 (W.getD ((i - 8) % 16) 0)), (.int .u32 (X32 (W.getD ((i - 3) % 16) 0) (W.getD ((i - 8) % 16) 0))), (.int .i64 (i : Int)), (.int .i64 (IntKind.i64.wrap ((i : Int) - 14))), (.int .i64 (bits .and .i64 (IntKind.i64.wrap ((i : Int) - 14)) 15)), (.pointer (some ⟨gw, ((i - 14) % 16), none⟩)), (.int .u32 (W.getD ((i - 14) % 16) 0)), (.int .u32 (X32 (X32 (W.getD ((i - 3) % 16) 0) (W.getD ((i - 8) % 16) 0)) (W.getD ((i - 14) % 16) 0))), (.int .i64 (i : Int)), (.int .i64 (bits .and .i64 (i : Int) 15)), (.pointer (some ⟨gw, (i % 16), none⟩)), (.int .u32 (W.getD (i % 16) 0)), (.int .u32 (X32 (X32 (X32 (W.getD ((i - 3) % 16) 0) (W.getD ((i - 8) % 16) 0)) (W.getD ((i - 14) % 16) 0)) (W.getD (i % 16) 0))), (.int .u32 (X32 (X32 (X32 (W.getD ((i - 3) % 16) 0) (W.getD ((i - 8) % 16) 0)) (W.getD ((i - 14) % 16) 0)) (W.getD (i % 16) 0)))] [none, none, none, some (.sem (Instr.indexAt 90 (.pointer (some ⟨gw, 0, none⟩)) (.int .i64 (bits .and .i64 (IntKind.i64.wrap ((i : Int) - 3)) 15))) (.pointer (some ⟨gw, ((i - 3) % 16), none⟩))), some (.sem (Instr.loadAt 52 (.pointer (some ⟨gw, ((i - 3) % 16), none⟩))) (.int .u32 (W.getD ((i - 3) % 16) 0))), none, none, none, some (.sem (Instr.indexAt 90 (.pointer (some ⟨gw, 0, none⟩)) (.int .i64 (bits .and .i64 (IntKind.i64.wrap ((i : Int) - 8)) 15))) (.pointer (some ⟨gw, ((i - 8) % 16), none⟩))), some (.sem (Instr.loadAt 52 (.pointer (some ⟨gw, ((i - 8) % 16), none⟩))) (.int .u32 (W.getD ((i - 8) % 16) 0))), none, none, none, none, some (.sem (Instr.indexAt 90 (.pointer (some ⟨gw, 0, none⟩)) (.int .i64 (bits .and .i64 (IntKind.i64.wrap ((i : Int) - 14)) 15))) (.pointer (some ⟨gw, ((i - 14) % 16), none⟩))), some (.sem (Instr.loadAt 52 (.pointer (some ⟨gw, ((i - 14) % 16), none⟩))) (.int .u32 (W.getD ((i - 14) % 16) 0))), none, none, none, some (.sem (Instr.indexAt 90 (.pointer (some ⟨gw, 0, none⟩)) (.int .i64 (bits .and .i64 (i : Int) 15))) (.pointer (some ⟨gw, (i % 16), none⟩))), some (.sem (Instr.loadAt 52 (.pointer (some ⟨gw, (i % 16), none⟩))) (.int .u32 (W.getD (i % 16) 0))), none, none] [0, 1, 4, 5, 6, 7, 8, 9, 12, 13, 14, 15, 16, 17, 20] [(.pointer (some ⟨g, 0, none⟩)), (.slice (some ⟨B, o', none⟩) l c'), (.pointer (some ⟨gw, 0, none⟩)), (.int .u32 HA), (.int .u32 HB), (.int .u32 HC), (.int .u32 HD), (.int .u32 HE), (.int .u32 a), (.int .u32 b), (.int .u32 c1), (.int .u32 d), (.int .u32 e1), (.int .i64 (i : Int)), (.int .u32 (X32 (X32 (X32 (W.getD ((i - 3) % 16) 0) (W.getD ((i - 8) % 16) 0)) (W.getD ((i - 14) % 16) 0)) (W.getD (i % 16) 0)))] hm (by kernel_rfl) (by kernel_rfl) hf1 (fun r w => by kernel_rfl) (fun r => by kernel_rfl) (Drawn.refl w1) (fun _ => (Drawn.refl w1).drew) ⟨idx_item _ gw ((i - 3) % 16) _ hq3, load_item (WS.cell hW1 ((i - 3) % 16) (Nat.mod_lt _ (by decide))) Try.underlying52 rfl, idx_item _ gw ((i - 8) % 16) _ hq8, load_item (WS.cell hW1 ((i - 8) % 16) (Nat.mod_lt _ (by decide))) Try.underlying52 rfl, idx_item _ gw ((i - 14) % 16) _ hq14, load_item (WS.cell hW1 ((i - 14) % 16) (Nat.mod_lt _ (by decide))) Try.underlying52 rfl, idx_item _ gw (i % 16) _ hq0, load_item (WS.cell hW1 (i % 16) (Nat.mod_lt _ (by decide))) Try.underlying52 rfl, trivial⟩ fun f2 w2 hw2 hf2 => ?_
            have hW2 : WS w2 gw W := WS.drawn hW1 hw2
            have hb2 := hw2.below hb1
            obtain ⟨nw, hnw⟩ : ∃ z, z = rotI (tmpS W i) 1 := ⟨_, rfl⟩
            refine wp_seq (reg_store (Drawn w2) _ rfl 397 _ [(.int .i64 (i : Int)), (.int .i64 (bits .and .i64 (i : Int) 15)), (.int .u32 (X32 (X32 (X32 (W.getD ((i - 3) % 16) 0) (W.getD ((i - 8) % 16) 0)) (W.getD ((i - 14) % 16) 0)) (W.getD (i % 16) 0))), (.int .u32 (rotI (X32 (X32 (X32 (W.getD ((i - 3) % 16) 0) (W.getD ((i - 8) % 16) 0)) (W.getD ((i - 14) % 16) 0)) (W.getD (i % 16) 0)) 1)), (.pointer (some ⟨gw, (i % 16), none⟩))] [none, none, none, some (.call 36 #[(.int .u32 (X32 (X32 (X32 (W.getD ((i - 3) % 16) 0) (W.getD ((i - 8) % 16) 0)) (W.getD ((i - 14) % 16) 0)) (W.getD (i % 16) 0))), .int .i64 1] (.int .u32 (rotI (X32 (X32 (X32 (W.getD ((i - 3) % 16) 0) (W.getD ((i - 8) % 16) 0)) (W.getD ((i - 14) % 16) 0)) (W.getD (i % 16) 0)) 1))), some (.sem (Instr.indexAt 90 (.pointer (some ⟨gw, 0, none⟩)) (.int .i64 (bits .and .i64 (i : Int) 15))) (.pointer (some ⟨gw, (i % 16), none⟩)))] [0, 1, 4, 5, 6, 7, 8, 9, 12, 13, 14, 15, 16, 17] [(.pointer (some ⟨g, 0, none⟩)), (.slice (some ⟨B, o', none⟩) l c'), (.pointer (some ⟨gw, 0, none⟩)), (.int .u32 HA), (.int .u32 HB), (.int .u32 HC), (.int .u32 HD), (.int .u32 HE), (.int .u32 a), (.int .u32 b), (.int .u32 c1), (.int .u32 d), (.int .u32 e1), (.int .i64 (i : Int))] (by kernel_rfl) hf2 (fun r w => by kernel_rfl) (fun r => by kernel_rfl) (Drawn.refl _) ⟨rot_item _ _ 1 (by decide) (by decide) _ rfl, idx_item _ gw (i % 16) _ hq0, trivial⟩ rfl rfl (x := .tmp 162) (y := .tmp 161) rfl (b := gw) (k := i % 16) (kd := .u32) (n := nw) (fun r => by kernel_rfl) (fun r => by rw [hnw]; kernel_rfl) Try.size32 (fun w' hw' => WS.there (WS.drawn hW2 hw') _ (Nat.mod_lt _ (by decide))) fun f3 w3' hw3 hf3 => ?_)
            show Code.wp _ _ _ _ _
            have hW3 : WS (w3'.setCell ⟨gw, i % 16, none⟩ (.int .u32 nw)) gw (W.set (i % 16) nw) := (WS.drawn hW2 hw3).set _ _
            have hb3 : Below gw w0 (w3'.setCell ⟨gw, i % 16, none⟩ (.int .u32 nw)) := below_set (hw3.below hb2) (Nat.le_refl _) (Nat.le_of_lt (WS.drawn hW2 hw3).2.lt)
            obtain ⟨w3, hwe⟩ : ∃ z, z = w3'.setCell ⟨gw, i % 16, none⟩ (.int .u32 nw) := ⟨_, rfl⟩
            rw [← hwe] at hW3 hb3 ⊢
            obtain ⟨W', hW'⟩ : ∃ z, z = W.set (i % 16) nw := ⟨_, rfl⟩
            rw [← hW'] at hW3
            refine seq_quiet (Drawn w3) 397 _ [(.int .u32 b), (.int .u32 c1), (.int .u32 (N32 b c1)), (.int .u32 b), (.int .u32 (V32 b)), (.int .u32 d), (.int .u32 (N32 (V32 b) d)), (.int .u32 (O32 (N32 b c1) (N32 (V32 b) d))), (.int .u32 (O32 (N32 b c1) (N32 (V32 b) d)))] [none, none, none, none, none, none, none, none, none] [0, 1, 4, 5, 6, 7, 8, 9, 12, 13, 14, 15, 16, 17, 21] [(.pointer (some ⟨g, 0, none⟩)), (.slice (some ⟨B, o', none⟩) l c'), (.pointer (some ⟨gw, 0, none⟩)), (.int .u32 HA), (.int .u32 HB), (.int .u32 HC), (.int .u32 HD), (.int .u32 HE), (.int .u32 a), (.int .u32 b), (.int .u32 c1), (.int .u32 d), (.int .u32 e1), (.int .i64 (i : Int)), (.int .u32 (O32 (N32 b c1) (N32 (V32 b) d)))] hm (by kernel_rfl) (by kernel_rfl) hf3 (fun r w => by kernel_rfl) (fun r => by kernel_rfl) (Drawn.refl w3) (fun _ => (Drawn.refl w3).drew) trivial fun f4 w4 hw4 hf4 => ?_
            have hW4 : WS w4 gw W' := WS.drawn hW3 hw4
            have hb4 := hw4.below hb3
            obtain ⟨nt, hnt⟩ : ∃ z, z = (A32 (A32 (A32 (A32 (rotI a 5) (O32 (N32 b c1) (N32 (V32 b) d))) e1) (W'.getD (i % 16) 0)) 1518500249) := ⟨_, rfl⟩
            refine seq_quiet (Drawn w4) 397 _ [(.int .u32 a), (.int .u32 (rotI a 5)), (.int .u32 (O32 (N32 b c1) (N32 (V32 b) d))), (.int .u32 (A32 (rotI a 5) (O32 (N32 b c1) (N32 (V32 b) d)))), (.int .u32 e1), (.int .u32 (A32 (A32 (rotI a 5) (O32 (N32 b c1) (N32 (V32 b) d))) e1)), (.int .i64 (i : Int)), (.int .i64 (bits .and .i64 (i : Int) 15)), (.pointer (some ⟨gw, (i % 16), none⟩)), (.int .u32 (W'.getD (i % 16) 0)), (.int .u32 (A32 (A32 (A32 (rotI a 5) (O32 (N32 b c1) (N32 (V32 b) d))) e1) (W'.getD (i % 16) 0))), (.int .u32 (A32 (A32 (A32 (A32 (rotI a 5) (O32 (N32 b c1) (N32 (V32 b) d))) e1) (W'.getD (i % 16) 0)) 1518500249)), (.int .u32 (A32 (A32 (A32 (A32 (rotI a 5) (O32 (N32 b c1) (N32 (V32 b) d))) e1) (W'.getD (i % 16) 0)) 1518500249))] [none, some (.call 36 #[(.int .u32 a), .int .i64 5] (.int .u32 (rotI a 5))), none, none, none, none, none, none, some (.sem (Instr.indexAt 90 (.pointer (some ⟨gw, 0, none⟩)) (.int .i64 (bits .and .i64 (i : Int) 15))) (.pointer (some ⟨gw, (i % 16), none⟩))), some (.sem (Instr.loadAt 52 (.pointer (some ⟨gw, (i % 16), none⟩))) (.int .u32 (W'.getD (i % 16) 0))), none, none, none] [0, 1, 4, 5, 6, 7, 8, 9, 12, 13, 14, 15, 16, 17, 22] [(.pointer (some ⟨g, 0, none⟩)), (.slice (some ⟨B, o', none⟩) l c'), (.pointer (some ⟨gw, 0, none⟩)), (.int .u32 HA), (.int .u32 HB), (.int .u32 HC), (.int .u32 HD), (.int .u32 HE), (.int .u32 a), (.int .u32 b), (.int .u32 c1), (.int .u32 d), (.int .u32 e1), (.int .i64 (i : Int)), (.int .u32 nt)] hm (by kernel_rfl) (by kernel_rfl) hf4 (fun r w => by kernel_rfl) (fun r => by rw [hnt]; kernel_rfl) (Drawn.refl w4) (fun _ => (Drawn.refl w4).drew) ⟨rot_item _ _ 5 (by decide) (by decide) _ rfl, idx_item _ gw (i % 16) _ hq0, load_item (WS.cell hW4 (i % 16) (Nat.mod_lt _ (by decide))) Try.underlying52 rfl, trivial⟩ fun f5 w5 hw5 hf5 => ?_
            have hW5 : WS w5 gw W' := WS.drawn hW4 hw5
            have hb5 := hw5.below hb4
            refine last_quiet (Drawn w5) 397 _ [(.int .u32 nt), (.int .u32 a), (.int .u32 b), (.int .u32 (rotI b 30)), (.int .u32 c1), (.int .u32 d), (.int .u32 nt), (.int .u32 a), (.int .u32 (rotI b 30)), (.int .u32 c1), (.int .u32 d)] [none, none, none, some (.call 36 #[(.int .u32 b), .int .i64 30] (.int .u32 (rotI b 30))), none, none, none, none, none, none, none] [0, 1, 4, 5, 6, 7, 8, 9, 12, 13, 14, 15, 16, 17] [(.pointer (some ⟨g, 0, none⟩)), (.slice (some ⟨B, o', none⟩) l c'), (.pointer (some ⟨gw, 0, none⟩)), (.int .u32 HA), (.int .u32 HB), (.int .u32 HC), (.int .u32 HD), (.int .u32 HE), (.int .u32 nt), (.int .u32 a), (.int .u32 (rotI b 30)), (.int .u32 c1), (.int .u32 d), (.int .i64 (i : Int))] hm (by kernel_rfl) (by kernel_rfl) hf5 (fun r w => by kernel_rfl) (fun r => by kernel_rfl) (Drawn.refl w5) (fun _ => (Drawn.refl w5).drew) ⟨rot_item _ _ 30 (by decide) (by decide) _ rfl, trivial⟩ fun f6 w6 hw6 hf6 => ?_
            have hW6 : WS w6 gw W' := WS.drawn hW5 hw6
            have hb6 := hw6.below hb5
            show Code.wp _ _ _ _ _
            refine last_quiet (Drawn w6) 397 _ [(.int .i64 (i : Int)), (.int .i64 (IntKind.i64.wrap ((i : Int) + 1))), (.int .i64 (IntKind.i64.wrap ((i : Int) + 1)))] [none, none, none] [0, 1, 4, 5, 6, 7, 8, 9, 12, 13, 14, 15, 16, 17] [(.pointer (some ⟨g, 0, none⟩)), (.slice (some ⟨B, o', none⟩) l c'), (.pointer (some ⟨gw, 0, none⟩)), (.int .u32 HA), (.int .u32 HB), (.int .u32 HC), (.int .u32 HD), (.int .u32 HE), (.int .u32 nt), (.int .u32 a), (.int .u32 (rotI b 30)), (.int .u32 c1), (.int .u32 d), (.int .i64 (IntKind.i64.wrap ((i : Int) + 1)))] hm (by kernel_rfl) (by kernel_rfl) hf6 (fun r w => by kernel_rfl) (fun r => by kernel_rfl) (Drawn.refl w6) (fun _ => (Drawn.refl w6).drew) trivial fun f7 w7 hw7 hf7 => ?_
            show _ ∧ _
            rw [Go.IntWalk.i64_in ((i : Int) + 1) (by omega), show (i : Int) + 1 = ((i + 1 : Nat) : Int) by omega] at hf7
            have hst : runS X0 (i + 1) = ((nt, a, rotI b 30, c1, d), W') := by
              rw [phS_step X0 i 1 _ hT (by unfold phS; rw [if_neg (by omega), if_pos (by omega)])]
              rw [hnt, hW', hnw]
              rfl
            refine ⟨⟨i + 1, _, by omega, by omega, hst, hW6.drawn hw7, hw7.below hb6, hf7⟩, ?_⟩
            unfold MeasS
            rw [show f7.tmps.getD 17 undef = _ from hf7.nth 13 rfl, show fr.tmps.getD 17 undef = _ from hfr.nth 13 rfl]
            simp only [intOf]
            omega
          · have hle2 : decide ((i : Int) < 20) = false := decide_eq_false (by omega)
            refine wp_cond_false ((hf1.nth 14 rfl).trans (by rw [hle2])) (wp_exit ?_)
            show _ ∧ _
            obtain rfl : i = 20 := by omega
            exact ⟨rfl, _, hT, hW1, hb1, hf1.sub [0, 1, 2, 3, 4, 5, 6, 7, 8, 9, 10, 11, 12, 13] rfl⟩
        · clear hf16x hW16x hb16x hR16
          rintro e fr20x w20x ⟨rfl, T, hR20, hW20x, hb20x, hf20x⟩
          show Code.wp _ _ _ _ _
          refine wp_seq (wp_mono (Q := fun e a w => e = .normal ∧ ∃ T : S5 × List Int, runS X0 40 = T ∧ WS w gw T.2 ∧ Below gw w0 w ∧ Fr 397 [(0, (.pointer (some ⟨g, 0, none⟩))), (1, (.slice (some ⟨B, o', none⟩) l c')), (4, (.pointer (some ⟨gw, 0, none⟩))), (5, (.int .u32 HA)), (6, (.int .u32 HB)), (7, (.int .u32 HC)), (8, (.int .u32 HD)), (9, (.int .u32 HE)), (12, (.int .u32 T.1.1)), (13, (.int .u32 T.1.2.1)), (14, (.int .u32 T.1.2.2.1)), (15, (.int .u32 T.1.2.2.2.1)), (16, (.int .u32 T.1.2.2.2.2)), (17, (.int .i64 ((40 : Nat) : Int)))] a) ?_ ?_)
          · refine wp_block (wp_loop (fun a w => ∃ (i : Nat) (T : S5 × List Int), 20 ≤ i ∧ i ≤ 40 ∧ runS X0 i = T ∧ WS w gw T.2 ∧ Below gw w0 w ∧ Fr 397 [(0, (.pointer (some ⟨g, 0, none⟩))), (1, (.slice (some ⟨B, o', none⟩) l c')), (4, (.pointer (some ⟨gw, 0, none⟩))), (5, (.int .u32 HA)), (6, (.int .u32 HB)), (7, (.int .u32 HC)), (8, (.int .u32 HD)), (9, (.int .u32 HE)), (12, (.int .u32 T.1.1)), (13, (.int .u32 T.1.2.1)), (14, (.int .u32 T.1.2.2.1)), (15, (.int .u32 T.1.2.2.2.1)), (16, (.int .u32 T.1.2.2.2.2)), (17, (.int .i64 ((i : Nat) : Int)))] a) (MeasS 17 40) ⟨20, _, Nat.le_refl _, by decide, hR20, hW20x, hb20x, hf20x⟩ ?_)
            rintro fr w ⟨i, ⟨⟨a, b, c1, d, e1⟩, W⟩, hlo, hhi, hT, hW, hbel, hfr⟩
            refine wp_seq ?_
            refine seq_quiet (Drawn w) 397 _ [(.int .i64 (i : Int)), (.bool (decide ((i : Int) < 40)))] [none, none] [0, 1, 4, 5, 6, 7, 8, 9, 12, 13, 14, 15, 16, 17, 190] [(.pointer (some ⟨g, 0, none⟩)), (.slice (some ⟨B, o', none⟩) l c'), (.pointer (some ⟨gw, 0, none⟩)), (.int .u32 HA), (.int .u32 HB), (.int .u32 HC), (.int .u32 HD), (.int .u32 HE), (.int .u32 a), (.int .u32 b), (.int .u32 c1), (.int .u32 d), (.int .u32 e1), (.int .i64 (i : Int)), (.bool (decide ((i : Int) < 40)))] hm (by kernel_rfl) (by kernel_rfl) hfr (fun r w => by kernel_rfl) (fun r => by kernel_rfl) (Drawn.refl w) (fun _ => (Drawn.refl w).drew) trivial fun f1 w1 hw1 hf1 => ?_
            have hW1 : WS w1 gw W := WS.drawn hW hw1
            have hb1 := hw1.below hbel
            by_cases hlt2 : i < 40
            · have hle2 : decide ((i : Int) < 40) = true := decide_eq_true (by omega)
              refine wp_cond_true ((hf1.nth 14 rfl).trans (by rw [hle2])) (wp_skip ?_)
              show Code.wp _ _ _ _ _
              refine wp_seq (wp_block ?_)
              have hq0 : bits .and .i64 (i : Int) 15 = ((i % 16 : Nat) : Int) ∧ i % 16 < 16 := ⟨ix15 i _ rfl (by omega), Nat.mod_lt _ (by decide)⟩
              have hq3 : bits .and .i64 (IntKind.i64.wrap ((i : Int) - 3)) 15 = (((i - 3) % 16 : Nat) : Int) ∧ (i - 3) % 16 < 16 := ⟨ix15 (i - 3) _ (by rw [Go.IntWalk.i64_in _ (by omega)]; omega) (by omega), Nat.mod_lt _ (by decide)⟩
              have hq8 : bits .and .i64 (IntKind.i64.wrap ((i : Int) - 8)) 15 = (((i - 8) % 16 : Nat) : Int) ∧ (i - 8) % 16 < 16 := ⟨ix15 (i - 8) _ (by rw [Go.IntWalk.i64_in _ (by omega)]; omega) (by omega), Nat.mod_lt _ (by decide)⟩
              have hq14 : bits .and .i64 (IntKind.i64.wrap ((i : Int) - 14)) 15 = (((i - 14) % 16 : Nat) : Int) ∧ (i - 14) % 16 < 16 := ⟨ix15 (i - 14) _ (by rw [Go.IntWalk.i64_in _ (by omega)]; omega) (by omega), Nat.mod_lt _ (by decide)⟩
              refine seq_quiet (Drawn w1) 397 _ [(.int .i64 (i : Int)), (.int .i64 (IntKind.i64.wrap ((i : Int) - 3))), (.int .i64 (bits .and .i64 (IntKind.i64.wrap ((i : Int) - 3)) 15)), (.pointer (some ⟨gw, ((i - 3) % 16), none⟩)), (.int .u32 (W.getD ((i - 3) % 16) 0)), (.int .i64 (i : Int)), (.int .i64 (IntKind.i64.wrap ((i : Int) - 8))), (.int .i64 (bits .and .i64 (IntKind.i64.wrap ((i : Int) - 8)) 15)), (.pointer (some ⟨gw, ((i - 8) % 16), none⟩)), (.int .u32 (W.getD ((i - 8) % 16) 0)), (.int .u32 (X32 (W.getD ((i - 3) % 16) 0) (W.getD ((i - 8) % 16) 0))), (.int .i64 (i : Int)), (.int .i64 (IntKind.i64.wrap ((i : Int) - 14))), (.int .i64 (bits .and .i64 (IntKind.i64.wrap ((i : Int) - 14)) 15)), (.pointer (some ⟨gw, ((i - 14) % 16), none⟩)), (.int .u32 (W.getD ((i - 14) % 16) 0)), (.int .u32 (X32 (X32 (W.getD ((i - 3) % 16) 0) (W.getD ((i - 8) % 16) 0)) (W.getD ((i - 14) % 16) 0))), (.int .i64 (i : Int)), (.int .i64 (bits .and .i64 (i : Int) 15)), (.pointer (some ⟨gw, (i % 16), none⟩)), (.int .u32 (W.getD (i % 16) 0)), (.int .u32 (X32 (X32 (X32 (W.getD ((i - 3) % 16) 0) (W.getD ((i - 8) % 16) 0)) (W.getD ((i - 14) % 16) 0)) (W.getD (i % 16) 0))), (.int .u32 (X32 (X32 (X32 (W.getD ((i - 3) % 16) 0) (W.getD ((i - 8) % 16) 0)) (W.getD ((i - 14) % 16) 0)) (W.getD (i % 16) 0)))] [none, none, none, some (.sem (Instr.indexAt 90 (.pointer (some ⟨gw, 0, none⟩)) (.int .i64 (bits .and .i64 (IntKind.i64.wrap ((i : Int) - 3)) 15))) (.pointer (some ⟨gw, ((i - 3) % 16), none⟩))), some (.sem (Instr.loadAt 52 (.pointer (some ⟨gw, ((i - 3) % 16), none⟩))) (.int .u32 (W.getD ((i - 3) % 16) 0))), none, none, none, some (.sem (Instr.indexAt 90 (.pointer (some ⟨gw, 0, none⟩)) (.int .i64 (bits .and .i64 (IntKind.i64.wrap ((i : Int) - 8)) 15))) (.pointer (some ⟨gw, ((i - 8) % 16), none⟩))), some (.sem (Instr.loadAt 52 (.pointer (some ⟨gw, ((i - 8) % 16), none⟩))) (.int .u32 (W.getD ((i - 8) % 16) 0))), none, none, none, none, some (.sem (Instr.indexAt 90 (.pointer (some ⟨gw, 0, none⟩)) (.int .i64 (bits .and .i64 (IntKind.i64.wrap ((i : Int) - 14)) 15))) (.pointer (some ⟨gw, ((i - 14) % 16), none⟩))), some (.sem (Instr.loadAt 52 (.pointer (some ⟨gw, ((i - 14) % 16), none⟩))) (.int .u32 (W.getD ((i - 14) % 16) 0))), none, none, none, some (.sem (Instr.indexAt 90 (.pointer (some ⟨gw, 0, none⟩)) (.int .i64 (bits .and .i64 (i : Int) 15))) (.pointer (some ⟨gw, (i % 16), none⟩))), some (.sem (Instr.loadAt 52 (.pointer (some ⟨gw, (i % 16), none⟩))) (.int .u32 (W.getD (i % 16) 0))), none, none] [0, 1, 4, 5, 6, 7, 8, 9, 12, 13, 14, 15, 16, 17, 23] [(.pointer (some ⟨g, 0, none⟩)), (.slice (some ⟨B, o', none⟩) l c'), (.pointer (some ⟨gw, 0, none⟩)), (.int .u32 HA), (.int .u32 HB), (.int .u32 HC), (.int .u32 HD), (.int .u32 HE), (.int .u32 a), (.int .u32 b), (.int .u32 c1), (.int .u32 d), (.int .u32 e1), (.int .i64 (i : Int)), (.int .u32 (X32 (X32 (X32 (W.getD ((i - 3) % 16) 0) (W.getD ((i - 8) % 16) 0)) (W.getD ((i - 14) % 16) 0)) (W.getD (i % 16) 0)))] hm (by kernel_rfl) (by kernel_rfl) hf1 (fun r w => by kernel_rfl) (fun r => by kernel_rfl) (Drawn.refl w1) (fun _ => (Drawn.refl w1).drew) ⟨idx_item _ gw ((i - 3) % 16) _ hq3, load_item (WS.cell hW1 ((i - 3) % 16) (Nat.mod_lt _ (by decide))) Try.underlying52 rfl, idx_item _ gw ((i - 8) % 16) _ hq8, load_item (WS.cell hW1 ((i - 8) % 16) (Nat.mod_lt _ (by decide))) Try.underlying52 rfl, idx_item _ gw ((i - 14) % 16) _ hq14, load_item (WS.cell hW1 ((i - 14) % 16) (Nat.mod_lt _ (by decide))) Try.underlying52 rfl, idx_item _ gw (i % 16) _ hq0, load_item (WS.cell hW1 (i % 16) (Nat.mod_lt _ (by decide))) Try.underlying52 rfl, trivial⟩ fun f2 w2 hw2 hf2 => ?_
              have hW2 : WS w2 gw W := WS.drawn hW1 hw2
              have hb2 := hw2.below hb1
              obtain ⟨nw, hnw⟩ : ∃ z, z = rotI (tmpS W i) 1 := ⟨_, rfl⟩
              refine wp_seq (reg_store (Drawn w2) _ rfl 397 _ [(.int .i64 (i : Int)), (.int .i64 (bits .and .i64 (i : Int) 15)), (.int .u32 (X32 (X32 (X32 (W.getD ((i - 3) % 16) 0) (W.getD ((i - 8) % 16) 0)) (W.getD ((i - 14) % 16) 0)) (W.getD (i % 16) 0))), (.int .u32 (rotI (X32 (X32 (X32 (W.getD ((i - 3) % 16) 0) (W.getD ((i - 8) % 16) 0)) (W.getD ((i - 14) % 16) 0)) (W.getD (i % 16) 0)) 1)), (.pointer (some ⟨gw, (i % 16), none⟩))] [none, none, none, some (.call 36 #[(.int .u32 (X32 (X32 (X32 (W.getD ((i - 3) % 16) 0) (W.getD ((i - 8) % 16) 0)) (W.getD ((i - 14) % 16) 0)) (W.getD (i % 16) 0))), .int .i64 1] (.int .u32 (rotI (X32 (X32 (X32 (W.getD ((i - 3) % 16) 0) (W.getD ((i - 8) % 16) 0)) (W.getD ((i - 14) % 16) 0)) (W.getD (i % 16) 0)) 1))), some (.sem (Instr.indexAt 90 (.pointer (some ⟨gw, 0, none⟩)) (.int .i64 (bits .and .i64 (i : Int) 15))) (.pointer (some ⟨gw, (i % 16), none⟩)))] [0, 1, 4, 5, 6, 7, 8, 9, 12, 13, 14, 15, 16, 17] [(.pointer (some ⟨g, 0, none⟩)), (.slice (some ⟨B, o', none⟩) l c'), (.pointer (some ⟨gw, 0, none⟩)), (.int .u32 HA), (.int .u32 HB), (.int .u32 HC), (.int .u32 HD), (.int .u32 HE), (.int .u32 a), (.int .u32 b), (.int .u32 c1), (.int .u32 d), (.int .u32 e1), (.int .i64 (i : Int))] (by kernel_rfl) hf2 (fun r w => by kernel_rfl) (fun r => by kernel_rfl) (Drawn.refl _) ⟨rot_item _ _ 1 (by decide) (by decide) _ rfl, idx_item _ gw (i % 16) _ hq0, trivial⟩ rfl rfl (x := .tmp 219) (y := .tmp 218) rfl (b := gw) (k := i % 16) (kd := .u32) (n := nw) (fun r => by kernel_rfl) (fun r => by rw [hnw]; kernel_rfl) Try.size32 (fun w' hw' => WS.there (WS.drawn hW2 hw') _ (Nat.mod_lt _ (by decide))) fun f3 w3' hw3 hf3 => ?_)
              show Code.wp _ _ _ _ _
              have hW3 : WS (w3'.setCell ⟨gw, i % 16, none⟩ (.int .u32 nw)) gw (W.set (i % 16) nw) := (WS.drawn hW2 hw3).set _ _
              have hb3 : Below gw w0 (w3'.setCell ⟨gw, i % 16, none⟩ (.int .u32 nw)) := below_set (hw3.below hb2) (Nat.le_refl _) (Nat.le_of_lt (WS.drawn hW2 hw3).2.lt)
              obtain ⟨w3, hwe⟩ : ∃ z, z = w3'.setCell ⟨gw, i % 16, none⟩ (.int .u32 nw) := ⟨_, rfl⟩
              rw [← hwe] at hW3 hb3 ⊢
              obtain ⟨W', hW'⟩ : ∃ z, z = W.set (i % 16) nw := ⟨_, rfl⟩
              rw [← hW'] at hW3
              refine seq_quiet (Drawn w3) 397 _ [(.int .u32 b), (.int .u32 c1), (.int .u32 (X32 b c1)), (.int .u32 d), (.int .u32 (X32 (X32 b c1) d)), (.int .u32 (X32 (X32 b c1) d))] [none, none, none, none, none, none] [0, 1, 4, 5, 6, 7, 8, 9, 12, 13, 14, 15, 16, 17, 24] [(.pointer (some ⟨g, 0, none⟩)), (.slice (some ⟨B, o', none⟩) l c'), (.pointer (some ⟨gw, 0, none⟩)), (.int .u32 HA), (.int .u32 HB), (.int .u32 HC), (.int .u32 HD), (.int .u32 HE), (.int .u32 a), (.int .u32 b), (.int .u32 c1), (.int .u32 d), (.int .u32 e1), (.int .i64 (i : Int)), (.int .u32 (X32 (X32 b c1) d))] hm (by kernel_rfl) (by kernel_rfl) hf3 (fun r w => by kernel_rfl) (fun r => by kernel_rfl) (Drawn.refl w3) (fun _ => (Drawn.refl w3).drew) trivial fun f4 w4 hw4 hf4 => ?_
              have hW4 : WS w4 gw W' := WS.drawn hW3 hw4
              have hb4 := hw4.below hb3
              obtain ⟨nt, hnt⟩ : ∃ z, z = (A32 (A32 (A32 (A32 (rotI a 5) (X32 (X32 b c1) d)) e1) (W'.getD (i % 16) 0)) 1859775393) := ⟨_, rfl⟩
              refine seq_quiet (Drawn w4) 397 _ [(.int .u32 a), (.int .u32 (rotI a 5)), (.int .u32 (X32 (X32 b c1) d)), (.int .u32 (A32 (rotI a 5) (X32 (X32 b c1) d))), (.int .u32 e1), (.int .u32 (A32 (A32 (rotI a 5) (X32 (X32 b c1) d)) e1)), (.int .i64 (i : Int)), (.int .i64 (bits .and .i64 (i : Int) 15)), (.pointer (some ⟨gw, (i % 16), none⟩)), (.int .u32 (W'.getD (i % 16) 0)), (.int .u32 (A32 (A32 (A32 (rotI a 5) (X32 (X32 b c1) d)) e1) (W'.getD (i % 16) 0))), (.int .u32 (A32 (A32 (A32 (A32 (rotI a 5) (X32 (X32 b c1) d)) e1) (W'.getD (i % 16) 0)) 1859775393)), (.int .u32 (A32 (A32 (A32 (A32 (rotI a 5) (X32 (X32 b c1) d)) e1) (W'.getD (i % 16) 0)) 1859775393))] [none, some (.call 36 #[(.int .u32 a), .int .i64 5] (.int .u32 (rotI a 5))), none, none, none, none, none, none, some (.sem (Instr.indexAt 90 (.pointer (some ⟨gw, 0, none⟩)) (.int .i64 (bits .and .i64 (i : Int) 15))) (.pointer (some ⟨gw, (i % 16), none⟩))), some (.sem (Instr.loadAt 52 (.pointer (some ⟨gw, (i % 16), none⟩))) (.int .u32 (W'.getD (i % 16) 0))), none, none, none] [0, 1, 4, 5, 6, 7, 8, 9, 12, 13, 14, 15, 16, 17, 25] [(.pointer (some ⟨g, 0, none⟩)), (.slice (some ⟨B, o', none⟩) l c'), (.pointer (some ⟨gw, 0, none⟩)), (.int .u32 HA), (.int .u32 HB), (.int .u32 HC), (.int .u32 HD), (.int .u32 HE), (.int .u32 a), (.int .u32 b), (.int .u32 c1), (.int .u32 d), (.int .u32 e1), (.int .i64 (i : Int)), (.int .u32 nt)] hm (by kernel_rfl) (by kernel_rfl) hf4 (fun r w => by kernel_rfl) (fun r => by rw [hnt]; kernel_rfl) (Drawn.refl w4) (fun _ => (Drawn.refl w4).drew) ⟨rot_item _ _ 5 (by decide) (by decide) _ rfl, idx_item _ gw (i % 16) _ hq0, load_item (WS.cell hW4 (i % 16) (Nat.mod_lt _ (by decide))) Try.underlying52 rfl, trivial⟩ fun f5 w5 hw5 hf5 => ?_
              have hW5 : WS w5 gw W' := WS.drawn hW4 hw5
              have hb5 := hw5.below hb4
              refine last_quiet (Drawn w5) 397 _ [(.int .u32 nt), (.int .u32 a), (.int .u32 b), (.int .u32 (rotI b 30)), (.int .u32 c1), (.int .u32 d), (.int .u32 nt), (.int .u32 a), (.int .u32 (rotI b 30)), (.int .u32 c1), (.int .u32 d)] [none, none, none, some (.call 36 #[(.int .u32 b), .int .i64 30] (.int .u32 (rotI b 30))), none, none, none, none, none, none, none] [0, 1, 4, 5, 6, 7, 8, 9, 12, 13, 14, 15, 16, 17] [(.pointer (some ⟨g, 0, none⟩)), (.slice (some ⟨B, o', none⟩) l c'), (.pointer (some ⟨gw, 0, none⟩)), (.int .u32 HA), (.int .u32 HB), (.int .u32 HC), (.int .u32 HD), (.int .u32 HE), (.int .u32 nt), (.int .u32 a), (.int .u32 (rotI b 30)), (.int .u32 c1), (.int .u32 d), (.int .i64 (i : Int))] hm (by kernel_rfl) (by kernel_rfl) hf5 (fun r w => by kernel_rfl) (fun r => by kernel_rfl) (Drawn.refl w5) (fun _ => (Drawn.refl w5).drew) ⟨rot_item _ _ 30 (by decide) (by decide) _ rfl, trivial⟩ fun f6 w6 hw6 hf6 => ?_
              have hW6 : WS w6 gw W' := WS.drawn hW5 hw6
              have hb6 := hw6.below hb5
              show Code.wp _ _ _ _ _
              refine last_quiet (Drawn w6) 397 _ [(.int .i64 (i : Int)), (.int .i64 (IntKind.i64.wrap ((i : Int) + 1))), (.int .i64 (IntKind.i64.wrap ((i : Int) + 1)))] [none, none, none] [0, 1, 4, 5, 6, 7, 8, 9, 12, 13, 14, 15, 16, 17] [(.pointer (some ⟨g, 0, none⟩)), (.slice (some ⟨B, o', none⟩) l c'), (.pointer (some ⟨gw, 0, none⟩)), (.int .u32 HA), (.int .u32 HB), (.int .u32 HC), (.int .u32 HD), (.int .u32 HE), (.int .u32 nt), (.int .u32 a), (.int .u32 (rotI b 30)), (.int .u32 c1), (.int .u32 d), (.int .i64 (IntKind.i64.wrap ((i : Int) + 1)))] hm (by kernel_rfl) (by kernel_rfl) hf6 (fun r w => by kernel_rfl) (fun r => by kernel_rfl) (Drawn.refl w6) (fun _ => (Drawn.refl w6).drew) trivial fun f7 w7 hw7 hf7 => ?_
              show _ ∧ _
              rw [Go.IntWalk.i64_in ((i : Int) + 1) (by omega), show (i : Int) + 1 = ((i + 1 : Nat) : Int) by omega] at hf7
              have hst : runS X0 (i + 1) = ((nt, a, rotI b 30, c1, d), W') := by
                rw [phS_step X0 i 2 _ hT (by unfold phS; rw [if_neg (by omega), if_neg (by omega), if_pos (by omega)])]
                rw [hnt, hW', hnw]
                rfl
              refine ⟨⟨i + 1, _, by omega, by omega, hst, hW6.drawn hw7, hw7.below hb6, hf7⟩, ?_⟩
              unfold MeasS
              rw [show f7.tmps.getD 17 undef = _ from hf7.nth 13 rfl, show fr.tmps.getD 17 undef = _ from hfr.nth 13 rfl]
              simp only [intOf]
              omega
            · have hle2 : decide ((i : Int) < 40) = false := decide_eq_false (by omega)
              refine wp_cond_false ((hf1.nth 14 rfl).trans (by rw [hle2])) (wp_exit ?_)
              show _ ∧ _
              obtain rfl : i = 40 := by omega
              exact ⟨rfl, _, hT, hW1, hb1, hf1.sub [0, 1, 2, 3, 4, 5, 6, 7, 8, 9, 10, 11, 12, 13] rfl⟩
          · clear hf20x hW20x hb20x hR20
            rintro e fr40x w40x ⟨rfl, T, hR40, hW40x, hb40x, hf40x⟩
            show Code.wp _ _ _ _ _
            refine wp_seq (wp_mono (Q := fun e a w => e = .normal ∧ ∃ T : S5 × List Int, runS X0 60 = T ∧ WS w gw T.2 ∧ Below gw w0 w ∧ Fr 397 [(0, (.pointer (some ⟨g, 0, none⟩))), (1, (.slice (some ⟨B, o', none⟩) l c')), (4, (.pointer (some ⟨gw, 0, none⟩))), (5, (.int .u32 HA)), (6, (.int .u32 HB)), (7, (.int .u32 HC)), (8, (.int .u32 HD)), (9, (.int .u32 HE)), (12, (.int .u32 T.1.1)), (13, (.int .u32 T.1.2.1)), (14, (.int .u32 T.1.2.2.1)), (15, (.int .u32 T.1.2.2.2.1)), (16, (.int .u32 T.1.2.2.2.2)), (17, (.int .i64 ((60 : Nat) : Int)))] a) ?_ ?_)
            · refine wp_block (wp_loop (fun a w => ∃ (i : Nat) (T : S5 × List Int), 40 ≤ i ∧ i ≤ 60 ∧ runS X0 i = T ∧ WS w gw T.2 ∧ Below gw w0 w ∧ Fr 397 [(0, (.pointer (some ⟨g, 0, none⟩))), (1, (.slice (some ⟨B, o', none⟩) l c')), (4, (.pointer (some ⟨gw, 0, none⟩))), (5, (.int .u32 HA)), (6, (.int .u32 HB)), (7, (.int .u32 HC)), (8, (.int .u32 HD)), (9, (.int .u32 HE)), (12, (.int .u32 T.1.1)), (13, (.int .u32 T.1.2.1)), (14, (.int .u32 T.1.2.2.1)), (15, (.int .u32 T.1.2.2.2.1)), (16, (.int .u32 T.1.2.2.2.2)), (17, (.int .i64 ((i : Nat) : Int)))] a) (MeasS 17 60) ⟨40, _, Nat.le_refl _, by decide, hR40, hW40x, hb40x, hf40x⟩ ?_)
              rintro fr w ⟨i, ⟨⟨a, b, c1, d, e1⟩, W⟩, hlo, hhi, hT, hW, hbel, hfr⟩
              refine wp_seq ?_
              refine seq_quiet (Drawn w) 397 _ [(.int .i64 (i : Int)), (.bool (decide ((i : Int) < 60)))] [none, none] [0, 1, 4, 5, 6, 7, 8, 9, 12, 13, 14, 15, 16, 17, 244] [(.pointer (some ⟨g, 0, none⟩)), (.slice (some ⟨B, o', none⟩) l c'), (.pointer (some ⟨gw, 0, none⟩)), (.int .u32 HA), (.int .u32 HB), (.int .u32 HC), (.int .u32 HD), (.int .u32 HE), (.int .u32 a), (.int .u32 b), (.int .u32 c1), (.int .u32 d), (.int .u32 e1), (.int .i64 (i : Int)), (.bool (decide ((i : Int) < 60)))] hm (by kernel_rfl) (by kernel_rfl) hfr (fun r w => by kernel_rfl) (fun r => by kernel_rfl) (Drawn.refl w) (fun _ => (Drawn.refl w).drew) trivial fun f1 w1 hw1 hf1 => ?_
              have hW1 : WS w1 gw W := WS.drawn hW hw1
              have hb1 := hw1.below hbel
              by_cases hlt2 : i < 60
              · have hle2 : decide ((i : Int) < 60) = true := decide_eq_true (by omega)
                refine wp_cond_true ((hf1.nth 14 rfl).trans (by rw [hle2])) (wp_skip ?_)
                show Code.wp _ _ _ _ _
                refine wp_seq (wp_block ?_)
                have hq0 : bits .and .i64 (i : Int) 15 = ((i % 16 : Nat) : Int) ∧ i % 16 < 16 := ⟨ix15 i _ rfl (by omega), Nat.mod_lt _ (by decide)⟩
                have hq3 : bits .and .i64 (IntKind.i64.wrap ((i : Int) - 3)) 15 = (((i - 3) % 16 : Nat) : Int) ∧ (i - 3) % 16 < 16 := ⟨ix15 (i - 3) _ (by rw [Go.IntWalk.i64_in _ (by omega)]; omega) (by omega), Nat.mod_lt _ (by decide)⟩
                have hq8 : bits .and .i64 (IntKind.i64.wrap ((i : Int) - 8)) 15 = (((i - 8) % 16 : Nat) : Int) ∧ (i - 8) % 16 < 16 := ⟨ix15 (i - 8) _ (by rw [Go.IntWalk.i64_in _ (by omega)]; omega) (by omega), Nat.mod_lt _ (by decide)⟩
                have hq14 : bits .and .i64 (IntKind.i64.wrap ((i : Int) - 14)) 15 = (((i - 14) % 16 : Nat) : Int) ∧ (i - 14) % 16 < 16 := ⟨ix15 (i - 14) _ (by rw [Go.IntWalk.i64_in _ (by omega)]; omega) (by omega), Nat.mod_lt _ (by decide)⟩
                refine seq_quiet (Drawn w1) 397 _ [(.int .i64 (i : Int)), (.int .i64 (IntKind.i64.wrap ((i : Int) - 3))), (.int .i64 (bits .and .i64 (IntKind.i64.wrap ((i : Int) - 3)) 15)), (.pointer (some ⟨gw, ((i - 3) % 16), none⟩)), (.int .u32 (W.getD ((i - 3) % 16) 0)), (.int .i64 (i : Int)), (.int .i64 (IntKind.i64.wrap ((i : Int) - 8))), (.int .i64 (bits .and .i64 (IntKind.i64.wrap ((i : Int) - 8)) 15)), (.pointer (some ⟨gw, ((i - 8) % 16), none⟩)), (.int .u32 (W.getD ((i - 8) % 16) 0)), (.int .u32 (X32 (W.getD ((i - 3) % 16) 0) (W.getD ((i - 8) % 16) 0))), (.int .i64 (i : Int)), (.int .i64 (IntKind.i64.wrap ((i : Int) - 14))), (.int .i64 (bits .and .i64 (IntKind.i64.wrap ((i : Int) - 14)) 15)), (.pointer (some ⟨gw, ((i - 14) % 16), none⟩)), (.int .u32 (W.getD ((i - 14) % 16) 0)), (.int .u32 (X32 (X32 (W.getD ((i - 3) % 16) 0) (W.getD ((i - 8) % 16) 0)) (W.getD ((i - 14) % 16) 0))), (.int .i64 (i : Int)), (.int .i64 (bits .and .i64 (i : Int) 15)), (.pointer (some ⟨gw, (i % 16), none⟩)), (.int .u32 (W.getD (i % 16) 0)), (.int .u32 (X32 (X32 (X32 (W.getD ((i - 3) % 16) 0) (W.getD ((i - 8) % 16) 0)) (W.getD ((i - 14) % 16) 0)) (W.getD (i % 16) 0))), (.int .u32 (X32 (X32 (X32 (W.getD ((i - 3) % 16) 0) (W.getD ((i - 8) % 16) 0)) (W.getD ((i - 14) % 16) 0)) (W.getD (i % 16) 0)))] [none, none, none, some (.sem (Instr.indexAt 90 (.pointer (some ⟨gw, 0, none⟩)) (.int .i64 (bits .and .i64 (IntKind.i64.wrap ((i : Int) - 3)) 15))) (.pointer (some ⟨gw, ((i - 3) % 16), none⟩))), some (.sem (Instr.loadAt 52 (.pointer (some ⟨gw, ((i - 3) % 16), none⟩))) (.int .u32 (W.getD ((i - 3) % 16) 0))), none, none, none, some (.sem (Instr.indexAt 90 (.pointer (some ⟨gw, 0, none⟩)) (.int .i64 (bits .and .i64 (IntKind.i64.wrap ((i : Int) - 8)) 15))) (.pointer (some ⟨gw, ((i - 8) % 16), none⟩))), some (.sem (Instr.loadAt 52 (.pointer (some ⟨gw, ((i - 8) % 16), none⟩))) (.int .u32 (W.getD ((i - 8) % 16) 0))), none, none, none, none, some (.sem (Instr.indexAt 90 (.pointer (some ⟨gw, 0, none⟩)) (.int .i64 (bits .and .i64 (IntKind.i64.wrap ((i : Int) - 14)) 15))) (.pointer (some ⟨gw, ((i - 14) % 16), none⟩))), some (.sem (Instr.loadAt 52 (.pointer (some ⟨gw, ((i - 14) % 16), none⟩))) (.int .u32 (W.getD ((i - 14) % 16) 0))), none, none, none, some (.sem (Instr.indexAt 90 (.pointer (some ⟨gw, 0, none⟩)) (.int .i64 (bits .and .i64 (i : Int) 15))) (.pointer (some ⟨gw, (i % 16), none⟩))), some (.sem (Instr.loadAt 52 (.pointer (some ⟨gw, (i % 16), none⟩))) (.int .u32 (W.getD (i % 16) 0))), none, none] [0, 1, 4, 5, 6, 7, 8, 9, 12, 13, 14, 15, 16, 17, 26] [(.pointer (some ⟨g, 0, none⟩)), (.slice (some ⟨B, o', none⟩) l c'), (.pointer (some ⟨gw, 0, none⟩)), (.int .u32 HA), (.int .u32 HB), (.int .u32 HC), (.int .u32 HD), (.int .u32 HE), (.int .u32 a), (.int .u32 b), (.int .u32 c1), (.int .u32 d), (.int .u32 e1), (.int .i64 (i : Int)), (.int .u32 (X32 (X32 (X32 (W.getD ((i - 3) % 16) 0) (W.getD ((i - 8) % 16) 0)) (W.getD ((i - 14) % 16) 0)) (W.getD (i % 16) 0)))] hm (by kernel_rfl) (by kernel_rfl) hf1 (fun r w => by kernel_rfl) (fun r => by kernel_rfl) (Drawn.refl w1) (fun _ => (Drawn.refl w1).drew) ⟨idx_item _ gw ((i - 3) % 16) _ hq3, load_item (WS.cell hW1 ((i - 3) % 16) (Nat.mod_lt _ (by decide))) Try.underlying52 rfl, idx_item _ gw ((i - 8) % 16) _ hq8, load_item (WS.cell hW1 ((i - 8) % 16) (Nat.mod_lt _ (by decide))) Try.underlying52 rfl, idx_item _ gw ((i - 14) % 16) _ hq14, load_item (WS.cell hW1 ((i - 14) % 16) (Nat.mod_lt _ (by decide))) Try.underlying52 rfl, idx_item _ gw (i % 16) _ hq0, load_item (WS.cell hW1 (i % 16) (Nat.mod_lt _ (by decide))) Try.underlying52 rfl, trivial⟩ fun f2 w2 hw2 hf2 => ?_
                have hW2 : WS w2 gw W := WS.drawn hW1 hw2
                have hb2 := hw2.below hb1
                obtain ⟨nw, hnw⟩ : ∃ z, z = rotI (tmpS W i) 1 := ⟨_, rfl⟩
                refine wp_seq (reg_store (Drawn w2) _ rfl 397 _ [(.int .i64 (i : Int)), (.int .i64 (bits .and .i64 (i : Int) 15)), (.int .u32 (X32 (X32 (X32 (W.getD ((i - 3) % 16) 0) (W.getD ((i - 8) % 16) 0)) (W.getD ((i - 14) % 16) 0)) (W.getD (i % 16) 0))), (.int .u32 (rotI (X32 (X32 (X32 (W.getD ((i - 3) % 16) 0) (W.getD ((i - 8) % 16) 0)) (W.getD ((i - 14) % 16) 0)) (W.getD (i % 16) 0)) 1)), (.pointer (some ⟨gw, (i % 16), none⟩))] [none, none, none, some (.call 36 #[(.int .u32 (X32 (X32 (X32 (W.getD ((i - 3) % 16) 0) (W.getD ((i - 8) % 16) 0)) (W.getD ((i - 14) % 16) 0)) (W.getD (i % 16) 0))), .int .i64 1] (.int .u32 (rotI (X32 (X32 (X32 (W.getD ((i - 3) % 16) 0) (W.getD ((i - 8) % 16) 0)) (W.getD ((i - 14) % 16) 0)) (W.getD (i % 16) 0)) 1))), some (.sem (Instr.indexAt 90 (.pointer (some ⟨gw, 0, none⟩)) (.int .i64 (bits .and .i64 (i : Int) 15))) (.pointer (some ⟨gw, (i % 16), none⟩)))] [0, 1, 4, 5, 6, 7, 8, 9, 12, 13, 14, 15, 16, 17] [(.pointer (some ⟨g, 0, none⟩)), (.slice (some ⟨B, o', none⟩) l c'), (.pointer (some ⟨gw, 0, none⟩)), (.int .u32 HA), (.int .u32 HB), (.int .u32 HC), (.int .u32 HD), (.int .u32 HE), (.int .u32 a), (.int .u32 b), (.int .u32 c1), (.int .u32 d), (.int .u32 e1), (.int .i64 (i : Int))] (by kernel_rfl) hf2 (fun r w => by kernel_rfl) (fun r => by kernel_rfl) (Drawn.refl _) ⟨rot_item _ _ 1 (by decide) (by decide) _ rfl, idx_item _ gw (i % 16) _ hq0, trivial⟩ rfl rfl (x := .tmp 273) (y := .tmp 272) rfl (b := gw) (k := i % 16) (kd := .u32) (n := nw) (fun r => by kernel_rfl) (fun r => by rw [hnw]; kernel_rfl) Try.size32 (fun w' hw' => WS.there (WS.drawn hW2 hw') _ (Nat.mod_lt _ (by decide))) fun f3 w3' hw3 hf3 => ?_)
                show Code.wp _ _ _ _ _
                have hW3 : WS (w3'.setCell ⟨gw, i % 16, none⟩ (.int .u32 nw)) gw (W.set (i % 16) nw) := (WS.drawn hW2 hw3).set _ _
                have hb3 : Below gw w0 (w3'.setCell ⟨gw, i % 16, none⟩ (.int .u32 nw)) := below_set (hw3.below hb2) (Nat.le_refl _) (Nat.le_of_lt (WS.drawn hW2 hw3).2.lt)
                obtain ⟨w3, hwe⟩ : ∃ z, z = w3'.setCell ⟨gw, i % 16, none⟩ (.int .u32 nw) := ⟨_, rfl⟩
                rw [← hwe] at hW3 hb3 ⊢
                obtain ⟨W', hW'⟩ : ∃ z, z = W.set (i % 16) nw := ⟨_, rfl⟩
                rw [← hW'] at hW3
                refine seq_quiet (Drawn w3) 397 _ [(.int .u32 b), (.int .u32 c1), (.int .u32 (O32 b c1)), (.int .u32 d), (.int .u32 (N32 (O32 b c1) d)), (.int .u32 b), (.int .u32 c1), (.int .u32 (N32 b c1)), (.int .u32 (O32 (N32 (O32 b c1) d) (N32 b c1))), (.int .u32 (O32 (N32 (O32 b c1) d) (N32 b c1)))] [none, none, none, none, none, none, none, none, none, none] [0, 1, 4, 5, 6, 7, 8, 9, 12, 13, 14, 15, 16, 17, 27] [(.pointer (some ⟨g, 0, none⟩)), (.slice (some ⟨B, o', none⟩) l c'), (.pointer (some ⟨gw, 0, none⟩)), (.int .u32 HA), (.int .u32 HB), (.int .u32 HC), (.int .u32 HD), (.int .u32 HE), (.int .u32 a), (.int .u32 b), (.int .u32 c1), (.int .u32 d), (.int .u32 e1), (.int .i64 (i : Int)), (.int .u32 (O32 (N32 (O32 b c1) d) (N32 b c1)))] hm (by kernel_rfl) (by kernel_rfl) hf3 (fun r w => by kernel_rfl) (fun r => by kernel_rfl) (Drawn.refl w3) (fun _ => (Drawn.refl w3).drew) trivial fun f4 w4 hw4 hf4 => ?_
                have hW4 : WS w4 gw W' := WS.drawn hW3 hw4
                have hb4 := hw4.below hb3
                obtain ⟨nt, hnt⟩ : ∃ z, z = (A32 (A32 (A32 (A32 (rotI a 5) (O32 (N32 (O32 b c1) d) (N32 b c1))) e1) (W'.getD (i % 16) 0)) 2400959708) := ⟨_, rfl⟩
                refine seq_quiet (Drawn w4) 397 _ [(.int .u32 a), (.int .u32 (rotI a 5)), (.int .u32 (O32 (N32 (O32 b c1) d) (N32 b c1))), (.int .u32 (A32 (rotI a 5) (O32 (N32 (O32 b c1) d) (N32 b c1)))), (.int .u32 e1), (.int .u32 (A32 (A32 (rotI a 5) (O32 (N32 (O32 b c1) d) (N32 b c1))) e1)), (.int .i64 (i : Int)), (.int .i64 (bits .and .i64 (i : Int) 15)), (.pointer (some ⟨gw, (i % 16), none⟩)), (.int .u32 (W'.getD (i % 16) 0)), (.int .u32 (A32 (A32 (A32 (rotI a 5) (O32 (N32 (O32 b c1) d) (N32 b c1))) e1) (W'.getD (i % 16) 0))), (.int .u32 (A32 (A32 (A32 (A32 (rotI a 5) (O32 (N32 (O32 b c1) d) (N32 b c1))) e1) (W'.getD (i % 16) 0)) 2400959708)), (.int .u32 (A32 (A32 (A32 (A32 (rotI a 5) (O32 (N32 (O32 b c1) d) (N32 b c1))) e1) (W'.getD (i % 16) 0)) 2400959708))] [none, some (.call 36 #[(.int .u32 a), .int .i64 5] (.int .u32 (rotI a 5))), none, none, none, none, none, none, some (.sem (Instr.indexAt 90 (.pointer (some ⟨gw, 0, none⟩)) (.int .i64 (bits .and .i64 (i : Int) 15))) (.pointer (some ⟨gw, (i % 16), none⟩))), some (.sem (Instr.loadAt 52 (.pointer (some ⟨gw, (i % 16), none⟩))) (.int .u32 (W'.getD (i % 16) 0))), none, none, none] [0, 1, 4, 5, 6, 7, 8, 9, 12, 13, 14, 15, 16, 17, 28] [(.pointer (some ⟨g, 0, none⟩)), (.slice (some ⟨B, o', none⟩) l c'), (.pointer (some ⟨gw, 0, none⟩)), (.int .u32 HA), (.int .u32 HB), (.int .u32 HC), (.int .u32 HD), (.int .u32 HE), (.int .u32 a), (.int .u32 b), (.int .u32 c1), (.int .u32 d), (.int .u32 e1), (.int .i64 (i : Int)), (.int .u32 nt)] hm (by kernel_rfl) (by kernel_rfl) hf4 (fun r w => by kernel_rfl) (fun r => by rw [hnt]; kernel_rfl) (Drawn.refl w4) (fun _ => (Drawn.refl w4).drew) ⟨rot_item _ _ 5 (by decide) (by decide) _ rfl, idx_item _ gw (i % 16) _ hq0, load_item (WS.cell hW4 (i % 16) (Nat.mod_lt _ (by decide))) Try.underlying52 rfl, trivial⟩ fun f5 w5 hw5 hf5 => ?_
                have hW5 : WS w5 gw W' := WS.drawn hW4 hw5
                have hb5 := hw5.below hb4
                refine last_quiet (Drawn w5) 397 _ [(.int .u32 nt), (.int .u32 a), (.int .u32 b), (.int .u32 (rotI b 30)), (.int .u32 c1), (.int .u32 d), (.int .u32 nt), (.int .u32 a), (.int .u32 (rotI b 30)), (.int .u32 c1), (.int .u32 d)] [none, none, none, some (.call 36 #[(.int .u32 b), .int .i64 30] (.int .u32 (rotI b 30))), none, none, none, none, none, none, none] [0, 1, 4, 5, 6, 7, 8, 9, 12, 13, 14, 15, 16, 17] [(.pointer (some ⟨g, 0, none⟩)), (.slice (some ⟨B, o', none⟩) l c'), (.pointer (some ⟨gw, 0, none⟩)), (.int .u32 HA), (.int .u32 HB), (.int .u32 HC), (.int .u32 HD), (.int .u32 HE), (.int .u32 nt), (.int .u32 a), (.int .u32 (rotI b 30)), (.int .u32 c1), (.int .u32 d), (.int .i64 (i : Int))] hm (by kernel_rfl) (by kernel_rfl) hf5 (fun r w => by kernel_rfl) (fun r => by kernel_rfl) (Drawn.refl w5) (fun _ => (Drawn.refl w5).drew) ⟨rot_item _ _ 30 (by decide) (by decide) _ rfl, trivial⟩ fun f6 w6 hw6 hf6 => ?_
                have hW6 : WS w6 gw W' := WS.drawn hW5 hw6
                have hb6 := hw6.below hb5
                show Code.wp _ _ _ _ _
                refine last_quiet (Drawn w6) 397 _ [(.int .i64 (i : Int)), (.int .i64 (IntKind.i64.wrap ((i : Int) + 1))), (.int .i64 (IntKind.i64.wrap ((i : Int) + 1)))] [none, none, none] [0, 1, 4, 5, 6, 7, 8, 9, 12, 13, 14, 15, 16, 17] [(.pointer (some ⟨g, 0, none⟩)), (.slice (some ⟨B, o', none⟩) l c'), (.pointer (some ⟨gw, 0, none⟩)), (.int .u32 HA), (.int .u32 HB), (.int .u32 HC), (.int .u32 HD), (.int .u32 HE), (.int .u32 nt), (.int .u32 a), (.int .u32 (rotI b 30)), (.int .u32 c1), (.int .u32 d), (.int .i64 (IntKind.i64.wrap ((i : Int) + 1)))] hm (by kernel_rfl) (by kernel_rfl) hf6 (fun r w => by kernel_rfl) (fun r => by kernel_rfl) (Drawn.refl w6) (fun _ => (Drawn.refl w6).drew) trivial fun f7 w7 hw7 hf7 => ?_
                show _ ∧ _
                rw [Go.IntWalk.i64_in ((i : Int) + 1) (by omega), show (i : Int) + 1 = ((i + 1 : Nat) : Int) by omega] at hf7
                have hst : runS X0 (i + 1) = ((nt, a, rotI b 30, c1, d), W') := by
                  rw [phS_step X0 i 3 _ hT (by unfold phS; rw [if_neg (by omega), if_neg (by omega), if_neg (by omega), if_pos (by omega)])]
                  rw [hnt, hW', hnw]
                  rfl
                refine ⟨⟨i + 1, _, by omega, by omega, hst, hW6.drawn hw7, hw7.below hb6, hf7⟩, ?_⟩
                unfold MeasS
                rw [show f7.tmps.getD 17 undef = _ from hf7.nth 13 rfl, show fr.tmps.getD 17 undef = _ from hfr.nth 13 rfl]
                simp only [intOf]
                omega
              · have hle2 : decide ((i : Int) < 60) = false := decide_eq_false (by omega)
                refine wp_cond_false ((hf1.nth 14 rfl).trans (by rw [hle2])) (wp_exit ?_)
                show _ ∧ _
                obtain rfl : i = 60 := by omega
                exact ⟨rfl, _, hT, hW1, hb1, hf1.sub [0, 1, 2, 3, 4, 5, 6, 7, 8, 9, 10, 11, 12, 13] rfl⟩
            · clear hf40x hW40x hb40x hR40
              rintro e fr60x w60x ⟨rfl, T, hR60, hW60x, hb60x, hf60x⟩
              show Code.wp _ _ _ _ _
              refine wp_seq (wp_mono (Q := fun e a w => e = .normal ∧ ∃ T : S5 × List Int, runS X0 80 = T ∧ WS w gw T.2 ∧ Below gw w0 w ∧ Fr 397 [(0, (.pointer (some ⟨g, 0, none⟩))), (1, (.slice (some ⟨B, o', none⟩) l c')), (4, (.pointer (some ⟨gw, 0, none⟩))), (5, (.int .u32 HA)), (6, (.int .u32 HB)), (7, (.int .u32 HC)), (8, (.int .u32 HD)), (9, (.int .u32 HE)), (12, (.int .u32 T.1.1)), (13, (.int .u32 T.1.2.1)), (14, (.int .u32 T.1.2.2.1)), (15, (.int .u32 T.1.2.2.2.1)), (16, (.int .u32 T.1.2.2.2.2)), (17, (.int .i64 ((80 : Nat) : Int)))] a) ?_ ?_)
              · refine wp_block (wp_loop (fun a w => ∃ (i : Nat) (T : S5 × List Int), 60 ≤ i ∧ i ≤ 80 ∧ runS X0 i = T ∧ WS w gw T.2 ∧ Below gw w0 w ∧ Fr 397 [(0, (.pointer (some ⟨g, 0, none⟩))), (1, (.slice (some ⟨B, o', none⟩) l c')), (4, (.pointer (some ⟨gw, 0, none⟩))), (5, (.int .u32 HA)), (6, (.int .u32 HB)), (7, (.int .u32 HC)), (8, (.int .u32 HD)), (9, (.int .u32 HE)), (12, (.int .u32 T.1.1)), (13, (.int .u32 T.1.2.1)), (14, (.int .u32 T.1.2.2.1)), (15, (.int .u32 T.1.2.2.2.1)), (16, (.int .u32 T.1.2.2.2.2)), (17, (.int .i64 ((i : Nat) : Int)))] a) (MeasS 17 80) ⟨60, _, Nat.le_refl _, by decide, hR60, hW60x, hb60x, hf60x⟩ ?_)
                rintro fr w ⟨i, ⟨⟨a, b, c1, d, e1⟩, W⟩, hlo, hhi, hT, hW, hbel, hfr⟩
                refine wp_seq ?_
                refine seq_quiet (Drawn w) 397 _ [(.int .i64 (i : Int)), (.bool (decide ((i : Int) < 80)))] [none, none] [0, 1, 4, 5, 6, 7, 8, 9, 12, 13, 14, 15, 16, 17, 302] [(.pointer (some ⟨g, 0, none⟩)), (.slice (some ⟨B, o', none⟩) l c'), (.pointer (some ⟨gw, 0, none⟩)), (.int .u32 HA), (.int .u32 HB), (.int .u32 HC), (.int .u32 HD), (.int .u32 HE), (.int .u32 a), (.int .u32 b), (.int .u32 c1), (.int .u32 d), (.int .u32 e1), (.int .i64 (i : Int)), (.bool (decide ((i : Int) < 80)))] hm (by kernel_rfl) (by kernel_rfl) hfr (fun r w => by kernel_rfl) (fun r => by kernel_rfl) (Drawn.refl w) (fun _ => (Drawn.refl w).drew) trivial fun f1 w1 hw1 hf1 => ?_
                have hW1 : WS w1 gw W := WS.drawn hW hw1
                have hb1 := hw1.below hbel
                by_cases hlt2 : i < 80
                · have hle2 : decide ((i : Int) < 80) = true := decide_eq_true (by omega)
                  refine wp_cond_true ((hf1.nth 14 rfl).trans (by rw [hle2])) (wp_skip ?_)
                  show Code.wp _ _ _ _ _
                  refine wp_seq (wp_block ?_)
                  have hq0 : bits .and .i64 (i : Int) 15 = ((i % 16 : Nat) : Int) ∧ i % 16 < 16 := ⟨ix15 i _ rfl (by omega), Nat.mod_lt _ (by decide)⟩
                  have hq3 : bits .and .i64 (IntKind.i64.wrap ((i : Int) - 3)) 15 = (((i - 3) % 16 : Nat) : Int) ∧ (i - 3) % 16 < 16 := ⟨ix15 (i - 3) _ (by rw [Go.IntWalk.i64_in _ (by omega)]; omega) (by omega), Nat.mod_lt _ (by decide)⟩
                  have hq8 : bits .and .i64 (IntKind.i64.wrap ((i : Int) - 8)) 15 = (((i - 8) % 16 : Nat) : Int) ∧ (i - 8) % 16 < 16 := ⟨ix15 (i - 8) _ (by rw [Go.IntWalk.i64_in _ (by omega)]; omega) (by omega), Nat.mod_lt _ (by decide)⟩
                  have hq14 : bits .and .i64 (IntKind.i64.wrap ((i : Int) - 14)) 15 = (((i - 14) % 16 : Nat) : Int) ∧ (i - 14) % 16 < 16 := ⟨ix15 (i - 14) _ (by rw [Go.IntWalk.i64_in _ (by omega)]; omega) (by omega), Nat.mod_lt _ (by decide)⟩
                  refine seq_quiet (Drawn w1) 397 _ [(.int .i64 (i : Int)), (.int .i64 (IntKind.i64.wrap ((i : Int) - 3))), (.int .i64 (bits .and .i64 (IntKind.i64.wrap ((i : Int) - 3)) 15)), (.pointer (some ⟨gw, ((i - 3) % 16), none⟩)), (.int .u32 (W.getD ((i - 3) % 16) 0)), (.int .i64 (i : Int)), (.int .i64 (IntKind.i64.wrap ((i : Int) - 8))), (.int .i64 (bits .and .i64 (IntKind.i64.wrap ((i : Int) - 8)) 15)), (.pointer (some ⟨gw, ((i - 8) % 16), none⟩)), (.int .u32 (W.getD ((i - 8) % 16) 0)), (.int .u32 (X32 (W.getD ((i - 3) % 16) 0) (W.getD ((i - 8) % 16) 0))), (.int .i64 (i : Int)), (.int .i64 (IntKind.i64.wrap ((i : Int) - 14))), (.int .i64 (bits .and .i64 (IntKind.i64.wrap ((i : Int) - 14)) 15)), (.pointer (some ⟨gw, ((i - 14) % 16), none⟩)), (.int .u32 (W.getD ((i - 14) % 16) 0)), (.int .u32 (X32 (X32 (W.getD ((i - 3) % 16) 0) (W.getD ((i - 8) % 16) 0)) (W.getD ((i - 14) % 16) 0))), (.int .i64 (i : Int)), (.int .i64 (bits .and .i64 (i : Int) 15)), (.pointer (some ⟨gw, (i % 16), none⟩)), (.int .u32 (W.getD (i % 16) 0)), (.int .u32 (X32 (X32 (X32 (W.getD ((i - 3) % 16) 0) (W.getD ((i - 8) % 16) 0)) (W.getD ((i - 14) % 16) 0)) (W.getD (i % 16) 0))), (.int .u32 (X32 (X32 (X32 (W.getD ((i - 3) % 16) 0) (W.getD ((i - 8) % 16) 0)) (W.getD ((i - 14) % 16) 0)) (W.getD (i % 16) 0)))] [none, none, none, some (.sem (Instr.indexAt 90 (.pointer (some ⟨gw, 0, none⟩)) (.int .i64 (bits .and .i64 (IntKind.i64.wrap ((i : Int) - 3)) 15))) (.pointer (some ⟨gw, ((i - 3) % 16), none⟩))), some (.sem (Instr.loadAt 52 (.pointer (some ⟨gw, ((i - 3) % 16), none⟩))) (.int .u32 (W.getD ((i - 3) % 16) 0))), none, none, none, some (.sem (Instr.indexAt 90 (.pointer (some ⟨gw, 0, none⟩)) (.int .i64 (bits .and .i64 (IntKind.i64.wrap ((i : Int) - 8)) 15))) (.pointer (some ⟨gw, ((i - 8) % 16), none⟩))), some (.sem (Instr.loadAt 52 (.pointer (some ⟨gw, ((i - 8) % 16), none⟩))) (.int .u32 (W.getD ((i - 8) % 16) 0))), none, none, none, none, some (.sem (Instr.indexAt 90 (.pointer (some ⟨gw, 0, none⟩)) (.int .i64 (bits .and .i64 (IntKind.i64.wrap ((i : Int) - 14)) 15))) (.pointer (some ⟨gw, ((i - 14) % 16), none⟩))), some (.sem (Instr.loadAt 52 (.pointer (some ⟨gw, ((i - 14) % 16), none⟩))) (.int .u32 (W.getD ((i - 14) % 16) 0))), none, none, none, some (.sem (Instr.indexAt 90 (.pointer (some ⟨gw, 0, none⟩)) (.int .i64 (bits .and .i64 (i : Int) 15))) (.pointer (some ⟨gw, (i % 16), none⟩))), some (.sem (Instr.loadAt 52 (.pointer (some ⟨gw, (i % 16), none⟩))) (.int .u32 (W.getD (i % 16) 0))), none, none] [0, 1, 4, 5, 6, 7, 8, 9, 12, 13, 14, 15, 16, 17, 29] [(.pointer (some ⟨g, 0, none⟩)), (.slice (some ⟨B, o', none⟩) l c'), (.pointer (some ⟨gw, 0, none⟩)), (.int .u32 HA), (.int .u32 HB), (.int .u32 HC), (.int .u32 HD), (.int .u32 HE), (.int .u32 a), (.int .u32 b), (.int .u32 c1), (.int .u32 d), (.int .u32 e1), (.int .i64 (i : Int)), (.int .u32 (X32 (X32 (X32 (W.getD ((i - 3) % 16) 0) (W.getD ((i - 8) % 16) 0)) (W.getD ((i - 14) % 16) 0)) (W.getD (i % 16) 0)))] hm (by kernel_rfl) (by kernel_rfl) hf1 (fun r w => by kernel_rfl) (fun r => by kernel_rfl) (Drawn.refl w1) (fun _ => (Drawn.refl w1).drew) ⟨idx_item _ gw ((i - 3) % 16) _ hq3, load_item (WS.cell hW1 ((i - 3) % 16) (Nat.mod_lt _ (by decide))) Try.underlying52 rfl, idx_item _ gw ((i - 8) % 16) _ hq8, load_item (WS.cell hW1 ((i - 8) % 16) (Nat.mod_lt _ (by decide))) Try.underlying52 rfl, idx_item _ gw ((i - 14) % 16) _ hq14, load_item (WS.cell hW1 ((i - 14) % 16) (Nat.mod_lt _ (by decide))) Try.underlying52 rfl, idx_item _ gw (i % 16) _ hq0, load_item (WS.cell hW1 (i % 16) (Nat.mod_lt _ (by decide))) Try.underlying52 rfl, trivial⟩ fun f2 w2 hw2 hf2 => ?_
                  have hW2 : WS w2 gw W := WS.drawn hW1 hw2
                  have hb2 := hw2.below hb1
                  obtain ⟨nw, hnw⟩ : ∃ z, z = rotI (tmpS W i) 1 := ⟨_, rfl⟩
                  refine wp_seq (reg_store (Drawn w2) _ rfl 397 _ [(.int .i64 (i : Int)), (.int .i64 (bits .and .i64 (i : Int) 15)), (.int .u32 (X32 (X32 (X32 (W.getD ((i - 3) % 16) 0) (W.getD ((i - 8) % 16) 0)) (W.getD ((i - 14) % 16) 0)) (W.getD (i % 16) 0))), (.int .u32 (rotI (X32 (X32 (X32 (W.getD ((i - 3) % 16) 0) (W.getD ((i - 8) % 16) 0)) (W.getD ((i - 14) % 16) 0)) (W.getD (i % 16) 0)) 1)), (.pointer (some ⟨gw, (i % 16), none⟩))] [none, none, none, some (.call 36 #[(.int .u32 (X32 (X32 (X32 (W.getD ((i - 3) % 16) 0) (W.getD ((i - 8) % 16) 0)) (W.getD ((i - 14) % 16) 0)) (W.getD (i % 16) 0))), .int .i64 1] (.int .u32 (rotI (X32 (X32 (X32 (W.getD ((i - 3) % 16) 0) (W.getD ((i - 8) % 16) 0)) (W.getD ((i - 14) % 16) 0)) (W.getD (i % 16) 0)) 1))), some (.sem (Instr.indexAt 90 (.pointer (some ⟨gw, 0, none⟩)) (.int .i64 (bits .and .i64 (i : Int) 15))) (.pointer (some ⟨gw, (i % 16), none⟩)))] [0, 1, 4, 5, 6, 7, 8, 9, 12, 13, 14, 15, 16, 17] [(.pointer (some ⟨g, 0, none⟩)), (.slice (some ⟨B, o', none⟩) l c'), (.pointer (some ⟨gw, 0, none⟩)), (.int .u32 HA), (.int .u32 HB), (.int .u32 HC), (.int .u32 HD), (.int .u32 HE), (.int .u32 a), (.int .u32 b), (.int .u32 c1), (.int .u32 d), (.int .u32 e1), (.int .i64 (i : Int))] (by kernel_rfl) hf2 (fun r w => by kernel_rfl) (fun r => by kernel_rfl) (Drawn.refl _) ⟨rot_item _ _ 1 (by decide) (by decide) _ rfl, idx_item _ gw (i % 16) _ hq0, trivial⟩ rfl rfl (x := .tmp 331) (y := .tmp 330) rfl (b := gw) (k := i % 16) (kd := .u32) (n := nw) (fun r => by kernel_rfl) (fun r => by rw [hnw]; kernel_rfl) Try.size32 (fun w' hw' => WS.there (WS.drawn hW2 hw') _ (Nat.mod_lt _ (by decide))) fun f3 w3' hw3 hf3 => ?_)
                  show Code.wp _ _ _ _ _
                  have hW3 : WS (w3'.setCell ⟨gw, i % 16, none⟩ (.int .u32 nw)) gw (W.set (i % 16) nw) := (WS.drawn hW2 hw3).set _ _
                  have hb3 : Below gw w0 (w3'.setCell ⟨gw, i % 16, none⟩ (.int .u32 nw)) := below_set (hw3.below hb2) (Nat.le_refl _) (Nat.le_of_lt (WS.drawn hW2 hw3).2.lt)
                  obtain ⟨w3, hwe⟩ : ∃ z, z = w3'.setCell ⟨gw, i % 16, none⟩ (.int .u32 nw) := ⟨_, rfl⟩
                  rw [← hwe] at hW3 hb3 ⊢
                  obtain ⟨W', hW'⟩ : ∃ z, z = W.set (i % 16) nw := ⟨_, rfl⟩
                  rw [← hW'] at hW3
                  refine seq_quiet (Drawn w3) 397 _ [(.int .u32 b), (.int .u32 c1), (.int .u32 (X32 b c1)), (.int .u32 d), (.int .u32 (X32 (X32 b c1) d)), (.int .u32 (X32 (X32 b c1) d))] [none, none, none, none, none, none] [0, 1, 4, 5, 6, 7, 8, 9, 12, 13, 14, 15, 16, 17, 30] [(.pointer (some ⟨g, 0, none⟩)), (.slice (some ⟨B, o', none⟩) l c'), (.pointer (some ⟨gw, 0, none⟩)), (.int .u32 HA), (.int .u32 HB), (.int .u32 HC), (.int .u32 HD), (.int .u32 HE), (.int .u32 a), (.int .u32 b), (.int .u32 c1), (.int .u32 d), (.int .u32 e1), (.int .i64 (i : Int)), (.int .u32 (X32 (X32 b c1) d))] hm (by kernel_rfl) (by kernel_rfl) hf3 (fun r w => by kernel_rfl) (fun r => by kernel_rfl) (Drawn.refl w3) (fun _ => (Drawn.refl w3).drew) trivial fun f4 w4 hw4 hf4 => ?_
                  have hW4 : WS w4 gw W' := WS.drawn hW3 hw4
                  have hb4 := hw4.below hb3
                  obtain ⟨nt, hnt⟩ : ∃ z, z = (A32 (A32 (A32 (A32 (rotI a 5) (X32 (X32 b c1) d)) e1) (W'.getD (i % 16) 0)) 3395469782) := ⟨_, rfl⟩
                  refine seq_quiet (Drawn w4) 397 _ [(.int .u32 a), (.int .u32 (rotI a 5)), (.int .u32 (X32 (X32 b c1) d)), (.int .u32 (A32 (rotI a 5) (X32 (X32 b c1) d))), (.int .u32 e1), (.int .u32 (A32 (A32 (rotI a 5) (X32 (X32 b c1) d)) e1)), (.int .i64 (i : Int)), (.int .i64 (bits .and .i64 (i : Int) 15)), (.pointer (some ⟨gw, (i % 16), none⟩)), (.int .u32 (W'.getD (i % 16) 0)), (.int .u32 (A32 (A32 (A32 (rotI a 5) (X32 (X32 b c1) d)) e1) (W'.getD (i % 16) 0))), (.int .u32 (A32 (A32 (A32 (A32 (rotI a 5) (X32 (X32 b c1) d)) e1) (W'.getD (i % 16) 0)) 3395469782)), (.int .u32 (A32 (A32 (A32 (A32 (rotI a 5) (X32 (X32 b c1) d)) e1) (W'.getD (i % 16) 0)) 3395469782))] [none, some (.call 36 #[(.int .u32 a), .int .i64 5] (.int .u32 (rotI a 5))), none, none, none, none, none, none, some (.sem (Instr.indexAt 90 (.pointer (some ⟨gw, 0, none⟩)) (.int .i64 (bits .and .i64 (i : Int) 15))) (.pointer (some ⟨gw, (i % 16), none⟩))), some (.sem (Instr.loadAt 52 (.pointer (some ⟨gw, (i % 16), none⟩))) (.int .u32 (W'.getD (i % 16) 0))), none, none, none] [0, 1, 4, 5, 6, 7, 8, 9, 12, 13, 14, 15, 16, 17, 31] [(.pointer (some ⟨g, 0, none⟩)), (.slice (some ⟨B, o', none⟩) l c'), (.pointer (some ⟨gw, 0, none⟩)), (.int .u32 HA), (.int .u32 HB), (.int .u32 HC), (.int .u32 HD), (.int .u32 HE), (.int .u32 a), (.int .u32 b), (.int .u32 c1), (.int .u32 d), (.int .u32 e1), (.int .i64 (i : Int)), (.int .u32 nt)] hm (by kernel_rfl) (by kernel_rfl) hf4 (fun r w => by kernel_rfl) (fun r => by rw [hnt]; kernel_rfl) (Drawn.refl w4) (fun _ => (Drawn.refl w4).drew) ⟨rot_item _ _ 5 (by decide) (by decide) _ rfl, idx_item _ gw (i % 16) _ hq0, load_item (WS.cell hW4 (i % 16) (Nat.mod_lt _ (by decide))) Try.underlying52 rfl, trivial⟩ fun f5 w5 hw5 hf5 => ?_
                  have hW5 : WS w5 gw W' := WS.drawn hW4 hw5
                  have hb5 := hw5.below hb4
                  refine last_quiet (Drawn w5) 397 _ [(.int .u32 nt), (.int .u32 a), (.int .u32 b), (.int .u32 (rotI b 30)), (.int .u32 c1), (.int .u32 d), (.int .u32 nt), (.int .u32 a), (.int .u32 (rotI b 30)), (.int .u32 c1), (.int .u32 d)] [none, none, none, some (.call 36 #[(.int .u32 b), .int .i64 30] (.int .u32 (rotI b 30))), none, none, none, none, none, none, none] [0, 1, 4, 5, 6, 7, 8, 9, 12, 13, 14, 15, 16, 17] [(.pointer (some ⟨g, 0, none⟩)), (.slice (some ⟨B, o', none⟩) l c'), (.pointer (some ⟨gw, 0, none⟩)), (.int .u32 HA), (.int .u32 HB), (.int .u32 HC), (.int .u32 HD), (.int .u32 HE), (.int .u32 nt), (.int .u32 a), (.int .u32 (rotI b 30)), (.int .u32 c1), (.int .u32 d), (.int .i64 (i : Int))] hm (by kernel_rfl) (by kernel_rfl) hf5 (fun r w => by kernel_rfl) (fun r => by kernel_rfl) (Drawn.refl w5) (fun _ => (Drawn.refl w5).drew) ⟨rot_item _ _ 30 (by decide) (by decide) _ rfl, trivial⟩ fun f6 w6 hw6 hf6 => ?_
                  have hW6 : WS w6 gw W' := WS.drawn hW5 hw6
                  have hb6 := hw6.below hb5
                  show Code.wp _ _ _ _ _
                  refine last_quiet (Drawn w6) 397 _ [(.int .i64 (i : Int)), (.int .i64 (IntKind.i64.wrap ((i : Int) + 1))), (.int .i64 (IntKind.i64.wrap ((i : Int) + 1)))] [none, none, none] [0, 1, 4, 5, 6, 7, 8, 9, 12, 13, 14, 15, 16, 17] [(.pointer (some ⟨g, 0, none⟩)), (.slice (some ⟨B, o', none⟩) l c'), (.pointer (some ⟨gw, 0, none⟩)), (.int .u32 HA), (.int .u32 HB), (.int .u32 HC), (.int .u32 HD), (.int .u32 HE), (.int .u32 nt), (.int .u32 a), (.int .u32 (rotI b 30)), (.int .u32 c1), (.int .u32 d), (.int .i64 (IntKind.i64.wrap ((i : Int) + 1)))] hm (by kernel_rfl) (by kernel_rfl) hf6 (fun r w => by kernel_rfl) (fun r => by kernel_rfl) (Drawn.refl w6) (fun _ => (Drawn.refl w6).drew) trivial fun f7 w7 hw7 hf7 => ?_
                  show _ ∧ _
                  rw [Go.IntWalk.i64_in ((i : Int) + 1) (by omega), show (i : Int) + 1 = ((i + 1 : Nat) : Int) by omega] at hf7
                  have hst : runS X0 (i + 1) = ((nt, a, rotI b 30, c1, d), W') := by
                    rw [phS_step X0 i 4 _ hT (by unfold phS; rw [if_neg (by omega), if_neg (by omega), if_neg (by omega), if_neg (by omega)])]
                    rw [hnt, hW', hnw]
                    rfl
                  refine ⟨⟨i + 1, _, by omega, by omega, hst, hW6.drawn hw7, hw7.below hb6, hf7⟩, ?_⟩
                  unfold MeasS
                  rw [show f7.tmps.getD 17 undef = _ from hf7.nth 13 rfl, show fr.tmps.getD 17 undef = _ from hfr.nth 13 rfl]
                  simp only [intOf]
                  omega
                · have hle2 : decide ((i : Int) < 80) = false := decide_eq_false (by omega)
                  refine wp_cond_false ((hf1.nth 14 rfl).trans (by rw [hle2])) (wp_exit ?_)
                  show _ ∧ _
                  obtain rfl : i = 80 := by omega
                  exact ⟨rfl, _, hT, hW1, hb1, hf1.sub [0, 1, 2, 3, 4, 5, 6, 7, 8, 9, 10, 11, 12, 13] rfl⟩
              · clear hf60x hW60x hb60x hR60
                rintro e fr80x w80x ⟨rfl, T, hR80, hW80x, hb80x, hf80x⟩
                show Code.wp _ _ _ _ _
                obtain ⟨⟨a, b, c1, d, e1⟩, W2⟩ := T
                refine seq_quiet (Drawn w80x) 397 _ [(.int .u32 HA), (.int .u32 a), (.int .u32 (A32 HA a)), (.int .u32 (A32 HA a))] [none, none, none, none] [0, 1, 4, 5, 6, 7, 8, 9, 12, 13, 14, 15, 16] [(.pointer (some ⟨g, 0, none⟩)), (.slice (some ⟨B, o', none⟩) l c'), (.pointer (some ⟨gw, 0, none⟩)), (.int .u32 (A32 HA a)), (.int .u32 HB), (.int .u32 HC), (.int .u32 HD), (.int .u32 HE), (.int .u32 a), (.int .u32 b), (.int .u32 c1), (.int .u32 d), (.int .u32 e1)] hm (by kernel_rfl) (by kernel_rfl) hf80x (fun r w => by kernel_rfl) (fun r => by kernel_rfl) (Drawn.refl w80x) (fun _ => (Drawn.refl w80x).drew) trivial fun fs0 ws0 hws0 hfs0 => ?_
                have hWs0 : WS ws0 gw W2 := WS.drawn hW80x hws0
                have hbs0 := hws0.below hb80x
                refine seq_quiet (Drawn ws0) 397 _ [(.int .u32 HB), (.int .u32 b), (.int .u32 (A32 HB b)), (.int .u32 (A32 HB b))] [none, none, none, none] [0, 1, 4, 5, 6, 7, 8, 9, 12, 13, 14, 15, 16] [(.pointer (some ⟨g, 0, none⟩)), (.slice (some ⟨B, o', none⟩) l c'), (.pointer (some ⟨gw, 0, none⟩)), (.int .u32 (A32 HA a)), (.int .u32 (A32 HB b)), (.int .u32 HC), (.int .u32 HD), (.int .u32 HE), (.int .u32 a), (.int .u32 b), (.int .u32 c1), (.int .u32 d), (.int .u32 e1)] hm (by kernel_rfl) (by kernel_rfl) hfs0 (fun r w => by kernel_rfl) (fun r => by kernel_rfl) (Drawn.refl ws0) (fun _ => (Drawn.refl ws0).drew) trivial fun fs1 ws1 hws1 hfs1 => ?_
                have hWs1 : WS ws1 gw W2 := WS.drawn hWs0 hws1
                have hbs1 := hws1.below hbs0
                refine seq_quiet (Drawn ws1) 397 _ [(.int .u32 HC), (.int .u32 c1), (.int .u32 (A32 HC c1)), (.int .u32 (A32 HC c1))] [none, none, none, none] [0, 1, 4, 5, 6, 7, 8, 9, 12, 13, 14, 15, 16] [(.pointer (some ⟨g, 0, none⟩)), (.slice (some ⟨B, o', none⟩) l c'), (.pointer (some ⟨gw, 0, none⟩)), (.int .u32 (A32 HA a)), (.int .u32 (A32 HB b)), (.int .u32 (A32 HC c1)), (.int .u32 HD), (.int .u32 HE), (.int .u32 a), (.int .u32 b), (.int .u32 c1), (.int .u32 d), (.int .u32 e1)] hm (by kernel_rfl) (by kernel_rfl) hfs1 (fun r w => by kernel_rfl) (fun r => by kernel_rfl) (Drawn.refl ws1) (fun _ => (Drawn.refl ws1).drew) trivial fun fs2 ws2 hws2 hfs2 => ?_
                have hWs2 : WS ws2 gw W2 := WS.drawn hWs1 hws2
                have hbs2 := hws2.below hbs1
                refine seq_quiet (Drawn ws2) 397 _ [(.int .u32 HD), (.int .u32 d), (.int .u32 (A32 HD d)), (.int .u32 (A32 HD d))] [none, none, none, none] [0, 1, 4, 5, 6, 7, 8, 9, 12, 13, 14, 15, 16] [(.pointer (some ⟨g, 0, none⟩)), (.slice (some ⟨B, o', none⟩) l c'), (.pointer (some ⟨gw, 0, none⟩)), (.int .u32 (A32 HA a)), (.int .u32 (A32 HB b)), (.int .u32 (A32 HC c1)), (.int .u32 (A32 HD d)), (.int .u32 HE), (.int .u32 a), (.int .u32 b), (.int .u32 c1), (.int .u32 d), (.int .u32 e1)] hm (by kernel_rfl) (by kernel_rfl) hfs2 (fun r w => by kernel_rfl) (fun r => by kernel_rfl) (Drawn.refl ws2) (fun _ => (Drawn.refl ws2).drew) trivial fun fs3 ws3 hws3 hfs3 => ?_
                have hWs3 : WS ws3 gw W2 := WS.drawn hWs2 hws3
                have hbs3 := hws3.below hbs2
                refine seq_quiet (Drawn ws3) 397 _ [(.int .u32 HE), (.int .u32 e1), (.int .u32 (A32 HE e1)), (.int .u32 (A32 HE e1))] [none, none, none, none] [0, 1, 4, 5, 6, 7, 8, 9, 12, 13, 14, 15, 16] [(.pointer (some ⟨g, 0, none⟩)), (.slice (some ⟨B, o', none⟩) l c'), (.pointer (some ⟨gw, 0, none⟩)), (.int .u32 (A32 HA a)), (.int .u32 (A32 HB b)), (.int .u32 (A32 HC c1)), (.int .u32 (A32 HD d)), (.int .u32 (A32 HE e1)), (.int .u32 a), (.int .u32 b), (.int .u32 c1), (.int .u32 d), (.int .u32 e1)] hm (by kernel_rfl) (by kernel_rfl) hfs3 (fun r w => by kernel_rfl) (fun r => by kernel_rfl) (Drawn.refl ws3) (fun _ => (Drawn.refl ws3).drew) trivial fun fs4 ws4 hws4 hfs4 => ?_
                have hWs4 : WS ws4 gw W2 := WS.drawn hWs3 hws4
                have hbs4 := hws4.below hbs3
                refine last_quiet (Drawn ws4) 397 _ [(.slice (some ⟨B, o', none⟩) l c'), (.slice (if c' = 64 then some ⟨B, o', none⟩ else some ⟨B, o' + 64, none⟩) (l - 64) (c' - 64)), (.slice (if c' = 64 then some ⟨B, o', none⟩ else some ⟨B, o' + 64, none⟩) (l - 64) (c' - 64))] [none, some (.sem (Instr.sliceAt 22 (.slice (some ⟨B, o', none⟩) l c') (some (.int .i64 64)) none none) (.slice (if c' = 64 then some ⟨B, o', none⟩ else some ⟨B, o' + 64, none⟩) (l - 64) (c' - 64))), none] [0, 1, 4, 5, 6, 7, 8, 9] [(.pointer (some ⟨g, 0, none⟩)), (.slice (if c' = 64 then some ⟨B, o', none⟩ else some ⟨B, o' + 64, none⟩) (l - 64) (c' - 64)), (.pointer (some ⟨gw, 0, none⟩)), (.int .u32 (A32 HA a)), (.int .u32 (A32 HB b)), (.int .u32 (A32 HC c1)), (.int .u32 (A32 HD d)), (.int .u32 (A32 HE e1))] hm (by kernel_rfl) (by kernel_rfl) hfs4 (fun r w => by kernel_rfl) (fun r => by kernel_rfl) (Drawn.refl ws4) (fun _ => (Drawn.refl ws4).drew) ⟨fun w _ => slice_up B o' l c' hl64 hlc w, trivial⟩ fun fz wz hwz hfz => ?_
                show _ ∧ _
                have hsum : sha1Bs bs (a0, b0, c0, d0, e0) (k + 1) = ((A32 HA a), (A32 HB b), (A32 HC c1), (A32 HD d), (A32 HE e1)) := by
                  show sumS (sha1Bs bs (a0, b0, c0, d0, e0) k) (runS (sha1Bs bs (a0, b0, c0, d0, e0) k, (List.range 16).map (wordsS bs (64 * k))) 80).1 = _
                  rw [← hS, ← hib, ← hws, ← hX0, hR80]
                  rfl
                have hl' : l - 64 = n - 64 * (k + 1) := by omega
                rw [hl'] at hfz
                refine ⟨⟨k + 1, _, _, _, W2, by omega, hsum.symm, fun hk1 => ⟨?_, by omega⟩, hWs4.drawn hwz, hwz.below hbs4, hfz⟩, ?_⟩
                · rw [if_neg (by omega), ho']
                  rfl
                · rw [show fz.tmps.getD 1 undef = _ from hfz.nth 1 rfl, show fr.tmps.getD 1 undef = _ from hfr'.nth 1 rfl]
                  simp only [lenOf]
                  omega
  · have hle : decide ((64 : Int) ≤ (l : Int)) = false := decide_eq_false (by omega)
    refine wp_cond_false ((hfr3.nth 8 rfl).trans (by rw [hle])) (wp_exit ?_)
    show Code.wp _ _ _ _ _
    obtain rfl : k = m := by omega
    have hg3 : At w3 g 62 (cellsS (a0, b0, c0, d0, e0) ++ rest) := hg.below hb3 hgl
    have hgr : w0.grownBy w3 (some g) := grown_of_below (hgw ▸ hb3) _
    rw [← hS]
    refine reg_write 32 397 [(0, (.pointer (some ⟨g, 0, none⟩))), (5, (.int .u32 HA)), (6, (.int .u32 HB)), (7, (.int .u32 HC)), (8, (.int .u32 HD)), (9, (.int .u32 HE))] (fun q => [(.pointer (some ⟨g, 0, none⟩)), (.pointer (some ⟨g, 0, none⟩)), (.pointer (some ⟨g, 0, none⟩)), (.pointer (some ⟨g, 0, none⟩)), (.pointer (some ⟨g, 0, none⟩)), (.int .u32 HA), (.int .u32 HB), (.int .u32 HC), (.int .u32 HD), (.int .u32 HE), (.pointer (some ⟨g, 0, none⟩)), (.pointer (some ⟨g, 0, none⟩)), (.pointer (some ⟨g, 0, none⟩)), undef, (.pointer (some ⟨g, 0, none⟩)), (.pointer (some ⟨g, 0, none⟩)), (.pointer (some ⟨g, 1, none⟩)), undef, (.pointer (some ⟨g, 0, none⟩)), (.pointer (some ⟨g, 0, none⟩)), (.pointer (some ⟨g, 2, none⟩)), undef, (.pointer (some ⟨g, 0, none⟩)), (.pointer (some ⟨g, 0, none⟩)), (.pointer (some ⟨g, 3, none⟩)), undef, (.pointer (some ⟨g, 0, none⟩)), (.pointer (some ⟨g, 0, none⟩)), (.pointer (some ⟨g, 4, none⟩)), undef].getD q undef) (StS g (a0, b0, c0, d0, e0) (HA, HB, HC, HD, HE) rest w3) [0, 1, 2, 3, 4, 5, 6, 7, 8, 9, 10, 11, 12, 13, 14, 15, 16, 17, 18, 19, 20, 21, 22, 23, 24, 25, 26, 27, 28, 29] hm (by kernel_rfl) (by kernel_rfl) (by kernel_rfl) (by kernel_rfl) (hfr3.sub [0, 3, 4, 5, 6, 7] rfl) ?_ ?_ ?_
    · exact StS.start hg3 _
    · refine ⟨?_, ?_, ?_, ?_, ?_, ?_, ?_, ?_, ?_, ?_, ?_, ?_, ?_, ?_, ?_, ?_, ?_, ?_, ?_, ?_, ?_, ?_, ?_, ?_, ?_, ?_, ?_, ?_, ?_, ?_, trivial⟩
      · exact ⟨_, [], rfl, rfl, by kernel_rfl, fun r listed w' hsz hun hS => ⟨.value (.pointer (some ⟨g, 0, none⟩)), w', by kernel_rfl, .inl rfl, hS.other 0 (by decide) (by decide) (by decide) (by decide) (by decide)⟩⟩
      · exact ⟨_, [], rfl, rfl, by kernel_rfl, fun r listed w' hsz hun hS => ⟨.value (.pointer (some ⟨g, 0, none⟩)), w', by kernel_rfl, .inl rfl, hS.other 1 (by decide) (by decide) (by decide) (by decide) (by decide)⟩⟩
      · exact ⟨_, [], rfl, rfl, by kernel_rfl, fun r listed w' hsz hun hS => ⟨.value (.pointer (some ⟨g, 0, none⟩)), w', by kernel_rfl, .inl rfl, hS.other 2 (by decide) (by decide) (by decide) (by decide) (by decide)⟩⟩
      · exact ⟨_, [], rfl, rfl, by kernel_rfl, fun r listed w' hsz hun hS => ⟨.value (.pointer (some ⟨g, 0, none⟩)), w', by kernel_rfl, .inl rfl, hS.other 3 (by decide) (by decide) (by decide) (by decide) (by decide)⟩⟩
      · exact ⟨_, [], rfl, rfl, by kernel_rfl, fun r listed w' hsz hun hS => ⟨.value (.pointer (some ⟨g, 0, none⟩)), w', by kernel_rfl, .inl rfl, hS.other 4 (by decide) (by decide) (by decide) (by decide) (by decide)⟩⟩
      · exact ⟨_, [], rfl, rfl, by kernel_rfl, fun r listed w' hsz hun hS => ⟨.value (.int .u32 HA), w', by kernel_rfl, .inl rfl, hS.other 5 (by decide) (by decide) (by decide) (by decide) (by decide)⟩⟩
      · exact ⟨_, [], rfl, rfl, by kernel_rfl, fun r listed w' hsz hun hS => ⟨.value (.int .u32 HB), w', by kernel_rfl, .inl rfl, hS.other 6 (by decide) (by decide) (by decide) (by decide) (by decide)⟩⟩
      · exact ⟨_, [], rfl, rfl, by kernel_rfl, fun r listed w' hsz hun hS => ⟨.value (.int .u32 HC), w', by kernel_rfl, .inl rfl, hS.other 7 (by decide) (by decide) (by decide) (by decide) (by decide)⟩⟩
      · exact ⟨_, [], rfl, rfl, by kernel_rfl, fun r listed w' hsz hun hS => ⟨.value (.int .u32 HD), w', by kernel_rfl, .inl rfl, hS.other 8 (by decide) (by decide) (by decide) (by decide) (by decide)⟩⟩
      · exact ⟨_, [], rfl, rfl, by kernel_rfl, fun r listed w' hsz hun hS => ⟨.value (.int .u32 HE), w', by kernel_rfl, .inl rfl, hS.other 9 (by decide) (by decide) (by decide) (by decide) (by decide)⟩⟩
      · exact ⟨_, [0], rfl, rfl, by kernel_rfl, fun r listed w' hsz hun hS => ⟨.value (.pointer (some ⟨g, 0, none⟩)), w', by kernel_rfl, .inl rfl, hS.other 10 (by decide) (by decide) (by decide) (by decide) (by decide)⟩⟩
      · exact ⟨_, [10], rfl, rfl, by kernel_rfl, fun r listed w' hsz hun hS => ⟨.value (.pointer (some ⟨g, 0, none⟩)), w', by kernel_rfl, .inl rfl, hS.other 11 (by decide) (by decide) (by decide) (by decide) (by decide)⟩⟩
      · exact ⟨_, [11], rfl, rfl, by kernel_rfl, fun r listed w' hsz hun hS => ⟨.value (.pointer (some ⟨g, 0, none⟩)), w', by kernel_rfl, .inl rfl, hS.other 12 (by decide) (by decide) (by decide) (by decide) (by decide)⟩⟩
      · exact ⟨_, [12, 5], rfl, rfl, by kernel_rfl, fun r listed w' hsz hun hS => ⟨.skip, _, store_run (x := .tmp 384) (y := .tmp 377) rfl (by kernel_rfl) (by kernel_rfl) (hS.there 0 (by decide)) Try.size32, .inr ⟨rfl, rfl⟩, hS.store0 hsz⟩⟩
      · exact ⟨_, [1], rfl, rfl, by kernel_rfl, fun r listed w' hsz hun hS => ⟨.value (.pointer (some ⟨g, 0, none⟩)), w', by kernel_rfl, .inl rfl, hS.other 14 (by decide) (by decide) (by decide) (by decide) (by decide)⟩⟩
      · exact ⟨_, [14], rfl, rfl, by kernel_rfl, fun r listed w' hsz hun hS => ⟨.value (.pointer (some ⟨g, 0, none⟩)), w', by kernel_rfl, .inl rfl, hS.other 15 (by decide) (by decide) (by decide) (by decide) (by decide)⟩⟩
      · exact ⟨_, [15], rfl, rfl, by kernel_rfl, fun r listed w' hsz hun hS => ⟨.value (.pointer (some ⟨g, 1, none⟩)), w', by kernel_rfl, .inl rfl, hS.other 16 (by decide) (by decide) (by decide) (by decide) (by decide)⟩⟩
      · exact ⟨_, [16, 6], rfl, rfl, by kernel_rfl, fun r listed w' hsz hun hS => ⟨.skip, _, store_run (x := .tmp 387) (y := .tmp 378) rfl (by kernel_rfl) (by kernel_rfl) (hS.there 1 (by decide)) Try.size32, .inr ⟨rfl, rfl⟩, hS.store1 hsz⟩⟩
      · exact ⟨_, [2], rfl, rfl, by kernel_rfl, fun r listed w' hsz hun hS => ⟨.value (.pointer (some ⟨g, 0, none⟩)), w', by kernel_rfl, .inl rfl, hS.other 18 (by decide) (by decide) (by decide) (by decide) (by decide)⟩⟩
      · exact ⟨_, [18], rfl, rfl, by kernel_rfl, fun r listed w' hsz hun hS => ⟨.value (.pointer (some ⟨g, 0, none⟩)), w', by kernel_rfl, .inl rfl, hS.other 19 (by decide) (by decide) (by decide) (by decide) (by decide)⟩⟩
      · exact ⟨_, [19], rfl, rfl, by kernel_rfl, fun r listed w' hsz hun hS => ⟨.value (.pointer (some ⟨g, 2, none⟩)), w', by kernel_rfl, .inl rfl, hS.other 20 (by decide) (by decide) (by decide) (by decide) (by decide)⟩⟩
      · exact ⟨_, [20, 7], rfl, rfl, by kernel_rfl, fun r listed w' hsz hun hS => ⟨.skip, _, store_run (x := .tmp 390) (y := .tmp 379) rfl (by kernel_rfl) (by kernel_rfl) (hS.there 2 (by decide)) Try.size32, .inr ⟨rfl, rfl⟩, hS.store2 hsz⟩⟩
      · exact ⟨_, [3], rfl, rfl, by kernel_rfl, fun r listed w' hsz hun hS => ⟨.value (.pointer (some ⟨g, 0, none⟩)), w', by kernel_rfl, .inl rfl, hS.other 22 (by decide) (by decide) (by decide) (by decide) (by decide)⟩⟩
      · exact ⟨_, [22], rfl, rfl, by kernel_rfl, fun r listed w' hsz hun hS => ⟨.value (.pointer (some ⟨g, 0, none⟩)), w', by kernel_rfl, .inl rfl, hS.other 23 (by decide) (by decide) (by decide) (by decide) (by decide)⟩⟩
      · exact ⟨_, [23], rfl, rfl, by kernel_rfl, fun r listed w' hsz hun hS => ⟨.value (.pointer (some ⟨g, 3, none⟩)), w', by kernel_rfl, .inl rfl, hS.other 24 (by decide) (by decide) (by decide) (by decide) (by decide)⟩⟩
      · exact ⟨_, [24, 8], rfl, rfl, by kernel_rfl, fun r listed w' hsz hun hS => ⟨.skip, _, store_run (x := .tmp 393) (y := .tmp 380) rfl (by kernel_rfl) (by kernel_rfl) (hS.there 3 (by decide)) Try.size32, .inr ⟨rfl, rfl⟩, hS.store3 hsz⟩⟩
      · exact ⟨_, [4], rfl, rfl, by kernel_rfl, fun r listed w' hsz hun hS => ⟨.value (.pointer (some ⟨g, 0, none⟩)), w', by kernel_rfl, .inl rfl, hS.other 26 (by decide) (by decide) (by decide) (by decide) (by decide)⟩⟩
      · exact ⟨_, [26], rfl, rfl, by kernel_rfl, fun r listed w' hsz hun hS => ⟨.value (.pointer (some ⟨g, 0, none⟩)), w', by kernel_rfl, .inl rfl, hS.other 27 (by decide) (by decide) (by decide) (by decide) (by decide)⟩⟩
      · exact ⟨_, [27], rfl, rfl, by kernel_rfl, fun r listed w' hsz hun hS => ⟨.value (.pointer (some ⟨g, 4, none⟩)), w', by kernel_rfl, .inl rfl, hS.other 28 (by decide) (by decide) (by decide) (by decide) (by decide)⟩⟩
      · exact ⟨_, [28, 9], rfl, rfl, by kernel_rfl, fun r listed w' hsz hun hS => ⟨.skip, _, store_run (x := .tmp 396) (y := .tmp 381) rfl (by kernel_rfl) (by kernel_rfl) (hS.there 4 (by decide)) Try.size32, .inr ⟨rfl, rfl⟩, hS.store4 hsz⟩⟩
    · intro a' w' hf listed hall hS
      refine bodyPost_end (results_none rfl _ _ _) hf.2.1 ⟨rfl, ?_⟩
      exact hS.fin hall hgr
end Go.Proofs.Ytahkgkonpjimpaa
