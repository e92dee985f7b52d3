/-
  Shared by all proofs of this seat: what it means that bytes lie in memory, and laws for operations on whole blocks, each leaving a new world of which a few facts are known.
-/
import Derived.Test.YtahkgkonpjimpaaProg
import Derived.WalkKit
import Derived.WalkSpells
import Derived.WalkLawsBesides
import Derived.Deep.QuietTactic
import Derived.BigQuiet
import Derived.Lib.Hide
import Derived.KernelRfl
import Derived.Laws.CopyOwn
import Derived.Deep.AppendLies
import Derived.Deep.Draws
import Derived.Laws.AppendOwnNone
import Derived.Laws.BytesArg
import Derived.Deep.RegionHeld3
import Derived.Deep.MidRow
namespace Go.Proofs.Ytahkgkonpjimpaa
open Go.RowKit

/-- A byte as a value. -/
def B8 (b : UInt8) : Value := .int .u8 (b.toNat : Int)

theorem B8_one (bs : List UInt8) : ∀ v ∈ bs.map B8, v.oneCell' = true := by
  intro v hv
  obtain ⟨b, _, rfl⟩ := List.mem_map.1 hv
  rfl
theorem add_plain' (b o j : Nat) : (⟨b, o, none⟩ : Addr).add j = ⟨b, o + j, none⟩ := by unfold Addr.add; split <;> simp_all

/-- Block g is just the cells cs of element type t, none frozen. -/
def At (w : World) (g : Nat) (t : TypeId) (cs : List Value) : Prop := w.heap[g]? = some (.cells cs.toArray t (0, 0))

/-- From address A on lie the bytes bs. -/
def Byt (w : World) (A : Option Addr) (bs : List UInt8) : Prop :=
  0 < bs.length → ∃ b off, A = some ⟨b, off, none⟩ ∧ b < w.heap.size ∧ ∀ j (h : j < bs.length), w.cell? ⟨b, off + j, none⟩ = some (B8 bs[j])

section
variable {w w' : World} {g : Nat} {t : TypeId} {cs : List Value}
theorem At.lt (h : At w g t cs) : g < w.heap.size := by
  rcases Nat.lt_or_ge g w.heap.size with hlt | hge
  · exact hlt
  · unfold At at h; rw [Array.getElem?_eq_none hge] at h; cases h
theorem At.cell (h : At w g t cs) (i : Nat) (hi : i < cs.length) : w.cell? ⟨g, i, none⟩ = some cs[i] := by
  rw [cell_of_row w g i cs.toArray t (0, 0) h]; simp [hi]
theorem At.frozen (h : At w g t cs) (i : Nat) : w.frozen? ⟨g, i, none⟩ = false := frozen_of_row w g i _ t h
theorem At.range (h : At w g t cs) : w.rangeAt g 0 cs := fun j v hv => by
  obtain ⟨h1, h2⟩ := List.getElem?_eq_some_iff.1 hv
  rw [Nat.zero_add, h.cell j h1, h2]
theorem At.drew (h : At w g t cs) : At w.drew g t cs := h
theorem At.drewN (h : At w g t cs) (n : Nat) : At (w.drewN n) g t cs := h
theorem At.grown (h : At w g t cs) {row : Option Nat} (hb : w.grownBy w' row) (hg : some g ≠ row) : At w' g t cs := (hb.block g h.lt hg).trans h
theorem At.below {B : Nat} (h : At w g t cs) (hb : Below B w w') (hg : g < B) : At w' g t cs := (hb.block g hg).trans h
theorem At.set_ (h : At w g t cs) (i : Nat) (u : Value) : At (w.setCell ⟨g, i, none⟩ u) g t (cs.set i u) := by
  unfold At at h ⊢
  simp [World.setCell, Array.getElem?_modify, h]
theorem At.byt {bs : List UInt8} (h : At w g t (bs.map B8)) : Byt w (some ⟨g, 0, none⟩) bs := fun _ =>
  ⟨g, 0, rfl, h.lt, fun j hj => by rw [Nat.zero_add, h.cell j (by simpa using hj)]; simp⟩
theorem At.bytFrom {bs : List UInt8} (h : At w g t (bs.map B8)) (k : Nat) : Byt w (some ⟨g, k, none⟩) (bs.drop k) := fun _ =>
  ⟨g, k, rfl, h.lt, fun j hj => by
    have hj' : k + j < bs.length := by simp at hj; omega
    rw [h.cell (k + j) (by simpa using hj')]; simp⟩
end

section
variable {w w' : World} {A : Option Addr} {bs : List UInt8}
theorem Byt.nil (w : World) (A : Option Addr) : Byt w A [] := fun h => by simp at h
theorem Byt.below {B : Nat} (h : Byt w A bs) (hb : Below B w w') (hB : w.heap.size ≤ B) : Byt w' A bs := fun hp => by
  obtain ⟨b, off, rfl, hlt, hc⟩ := h hp
  exact ⟨b, off, rfl, Nat.lt_of_lt_of_le hlt hb.size, fun j hj => (hb.cell (p := ⟨b, off + j, none⟩) (by show b < B; omega)).trans (hc j hj)⟩
theorem Byt.drewN (h : Byt w A bs) (n : Nat) : Byt (w.drewN n) A bs := h
theorem Byt.take (h : Byt w A bs) (k : Nat) : Byt w A (bs.take k) := fun hp => by
  have hp' : 0 < bs.length := by simp at hp; omega
  obtain ⟨b, off, rfl, hlt, hc⟩ := h hp'
  exact ⟨b, off, rfl, hlt, fun j hj => by
    have : j < bs.length := by simp at hj; omega
    rw [hc j this]; simp⟩
theorem Byt.drop {b off : Nat} (h : Byt w (some ⟨b, off, none⟩) bs) (k : Nat) : Byt w (some ⟨b, off + k, none⟩) (bs.drop k) := fun hp => by
  have hp' : k < bs.length := by simp at hp; omega
  obtain ⟨b', off', e, hlt, hc⟩ := h (by omega)
  injection e with e; injection e with e1 e2; subst e1; subst e2
  exact ⟨_, _, rfl, hlt, fun j hj => by
    have : k + j < bs.length := by simp at hj; omega
    have := hc (k + j) this
    rw [← Nat.add_assoc] at this
    rw [this]; simp⟩
theorem Byt.src (h : Byt w A bs) (hp : 0 < bs.length) : ∃ ad, A = some ad ∧ ∀ j v, (bs.map B8)[j]? = some v → w.cell? (ad.add j) = some v := by
  obtain ⟨b, off, rfl, _, hc⟩ := h hp
  refine ⟨_, rfl, fun j v hv => ?_⟩
  rw [add_plain']
  obtain ⟨h1, h2⟩ := List.getElem?_eq_some_iff.1 hv
  have h1' : j < bs.length := by simpa using h1
  rw [hc j h1', ← h2]; simp
end

theorem grown_trans' {a b c : World} {row : Option Nat} (h : a.grownBy b row) (k : b.grownBy c row) : a.grownBy c row :=
  ⟨k.os.trans h.os, k.tape.trans h.tape, k.output.trans h.output, Nat.le_trans h.size k.size, fun i hi hne => (k.block i (Nat.lt_of_lt_of_le hi h.size) hne).trans (h.block i hi hne)⟩
theorem below_of_grown {B : Nat} {w w' : World} {row : Option Nat} (hg : w.grownBy w' row) (hB : B ≤ w.heap.size) (hr : ∀ k, row = some k → B ≤ k) : Below B w w' := (Below.refl B w).grown hg hB hr
theorem grown_of_below {w w' : World} (h : Below w.heap.size w w') (row : Option Nat) : w.grownBy w' row := ⟨h.os, h.tape, h.output, h.size, fun i hi _ => h.block i hi⟩
theorem below_drewN {B : Nat} {a w : World} (h : Below B a w) (n : Nat) : Below B a (w.drewN n) := ⟨h.os, h.tape, h.output, h.size, h.block⟩

theorem World.grownBy_mono' {w w' : World} {row : Option Nat} (h : w.grownBy w' none) : w.grownBy w' row := ⟨h.os, h.tape, h.output, h.size, fun k hk _ => h.block k hk (by simp)⟩

/-- The world w' is w with one block more, number w.heap.size: the cells cs of type t. -/
structure NewB (w w' : World) (t : TypeId) (cs : List Value) : Prop where
  grown : w.grownBy w' none
  size : w'.heap.size = w.heap.size + 1
  at_ : At w' w.heap.size t cs

theorem NewB.alloc (w : World) (t : TypeId) (cs : List Value) : NewB w (w.alloc (.cells cs.toArray t)) t cs :=
  ⟨World.grownBy_alloc w _ none, by simp, heap_alloc_new w _⟩
theorem NewB.keep {w w' : World} {t t' : TypeId} {cs cs' : List Value} {g : Nat} (h : NewB w w' t cs) (a : At w g t' cs') : At w' g t' cs' := a.grown h.grown (by simp)
theorem NewB.byt {w w' : World} {t : TypeId} {cs : List Value} {A : Option Addr} {bs : List UInt8} (h : NewB w w' t cs) (b : Byt w A bs) : Byt w' A bs :=
  b.below (below_of_grown h.grown (Nat.le_refl _) (by simp)) (Nat.le_refl _)
theorem NewB.below {w w' : World} {t : TypeId} {cs : List Value} {B : Nat} {a : World} (h : NewB w w' t cs) (b : Below B a w) (hB : B ≤ w.heap.size) : Below B a w' := b.grown h.grown hB (by simp)

/-- The world w' is w but for block g, which is now the cells cs of type t. -/
structure PutB (w w' : World) (g : Nat) (t : TypeId) (cs : List Value) : Prop where
  grown : w.grownBy w' (some g)
  size : w'.heap.size = w.heap.size
  at_ : At w' g t cs

theorem PutB.keep {w w' : World} {t t' : TypeId} {cs cs' : List Value} {g g' : Nat} (h : PutB w w' g t cs) (a : At w g' t' cs') (hne : g' ≠ g) : At w' g' t' cs' := a.grown h.grown (by simp [hne])
theorem PutB.below {w w' : World} {t : TypeId} {cs : List Value} {g B : Nat} {a : World} (h : PutB w w' g t cs) (b : Below B a w) (hB : B ≤ w.heap.size) (hg : B ≤ g) : Below B a w' := b.grown h.grown hB (by simp; omega)
theorem PutB.setRow {w : World} {g : Nat} {t : TypeId} {old : List Value} (h : At w g t old) (cs : List Value) : PutB w (w.setRow g cs.toArray) g t cs :=
  ⟨⟨rfl, rfl, rfl, by simp, fun k _ hk => setRow_other w g k _ (by simpa using hk)⟩, by simp, setRow_heap w g _ _ t _ h⟩
theorem PutB.setCell {w : World} {g : Nat} {t : TypeId} {old : List Value} (h : At w g t old) (i : Nat) (u : Value) : PutB w (w.setCell ⟨g, i, none⟩ u) g t (old.set i u) :=
  ⟨⟨rfl, rfl, rfl, by simp [World.setCell], fun k _ hk => Below.heap_setCell w _ u k (by simpa using hk)⟩, by simp [World.setCell], h.set_ i u⟩
theorem PutB.drew {w w' : World} {g : Nat} {t : TypeId} {cs : List Value} (h : PutB w w' g t cs) : PutB w w'.drew g t cs :=
  ⟨⟨h.grown.os, h.grown.tape, h.grown.output, h.grown.size, h.grown.block⟩, h.size, h.at_⟩
theorem PutB.trans {a b c : World} {g : Nat} {t t' : TypeId} {cs ds : List Value} (h : PutB a b g t cs) (k : PutB b c g t' ds) : PutB a c g t' ds :=
  ⟨grown_trans' h.grown k.grown, k.size.trans h.size, k.at_⟩

section
variable {P : Program} {w : World} {ops : Array Oper} {rest : List Oper} {o : Oper} {a : Act} {Q : Exit → Act → World → Prop}

/-- A new variable of type T, whose zero value is z. -/
theorem wpList_var (hgd : o.guard = none) (T : TypeId) (ho : o.op = .alloc T) (z : Value) (zs : List Value) (hz : ∀ w, (zeroValue T).run P w = .ok z w) (hzs : z.cells = zs.toArray)
    (h : ∀ w', NewB w w' T zs → wpList P ops Q rest (a.put o.dst (.pointer (some ⟨w.heap.size, 0, none⟩))) w') : wpList P ops Q (o :: rest) a w := by
  refine wpList_plain hgd fun K hK => ?_
  have hrun : (Instr.alloc T true (.tuple #[])).run P w = .ok (.pointer (some ⟨w.heap.size, 0, none⟩)) (w.alloc (.cells zs.toArray T)) := by
    unfold Instr.alloc
    rw [Sem.run_bind, hz]
    simp only [Result.andThen]
    unfold newVar newRow
    rw [hzs]
    rfl
  unfold Oper.wp execOp
  simp only [ho, Sem.run_bind, hrun, Result.andThen_ok, Sem.run_pure]
  exact hK _ _ (h _ (NewB.alloc w T zs))

/-- A parameter boxed: a new variable that holds v. -/
theorem wpList_boxed (hgd : o.guard = none) (T : TypeId) (x : Operand) (ho : o.op = .box T x) (v : Value) (cs : List Value) (hx : a.eval x = v) (hv : v.cells = cs.toArray)
    (h : ∀ w', NewB w w' T cs → wpList P ops Q rest (a.put o.dst (.pointer (some ⟨w.heap.size, 0, none⟩))) w') : wpList P ops Q (o :: rest) a w := by
  refine wpList_plain hgd fun K hK => ?_
  have hrun : (Instr.box T v).run P w = .ok (.pointer (some ⟨w.heap.size, 0, none⟩)) (w.alloc (.cells cs.toArray T)) := by
    unfold Instr.box newVar newRow
    rw [hv]
    rfl
  unfold Oper.wp execOp
  simp only [ho, hx, Sem.run_bind, hrun, Result.andThen_ok, Sem.run_pure]
  exact hK _ _ (h _ (NewB.alloc w T cs))

/-- A whole array or struct stored into a block that is known. -/
theorem wpList_put (hgd : o.guard = none) (ty : TypeId) (x y : Operand) (ho : o.op = .store ty x y) (g : Nat) (cs : List Value) (hx : a.eval x = .pointer (some ⟨g, 0, none⟩)) (hy : a.eval y = .agg cs.toArray)
    (t : TypeId) (old : List Value) (hg : At w g t old) (hi : (P.info? ty).map (·.size) = some cs.length) (hl : old.length = cs.length) (h1 : ∀ v ∈ cs, v.oneCell' = true)
    (h : ∀ w', PutB w w' g t cs → wpList P ops Q rest (a.put o.dst undef) w') : wpList P ops Q (o :: rest) a w :=
  wpList_store_row hgd ty x y ho g cs.toArray hx hy t old.toArray hg (by simpa using hi) (by simpa using hl) (Array.all_eq_true_iff_forall_mem.2 fun v hv => h1 v (by simpa using hv)) (h _ (PutB.setRow hg cs))

/-- A whole array or struct loaded out of a block that is known. -/
theorem wpList_get (hgd : o.guard = none) (ty : TypeId) (x : Operand) (ho : o.op = .load ty x) (g : Nat) (hx : a.eval x = .pointer (some ⟨g, 0, none⟩)) (t : TypeId) (cs : List Value) (d : TypeDesc) (hg : At w g t cs)
    (hu : P.underlying ty = some d) (hd : (match d with | .struct _ | .array _ _ => true | _ => false) = true) (hi : (P.info? ty).map (·.size) = some cs.length)
    (h : wpList P ops Q rest (a.put o.dst (.agg cs.toArray)) w) : wpList P ops Q (o :: rest) a w :=
  wpList_load_row hgd ty x ho g hx t cs.toArray (0, 0) d hg hu hd (by simpa using hi) h

/-- copy into a block that is known, out of bytes that lie anywhere. -/
theorem wpList_copyB (hgd : o.guard = none) (d s : Operand) (dT sT : TypeId) (ho : o.op = .call { callee := .builtin .copy, args := #[d, s], argTypes := #[dT, sT] })
    (elem : TypeId) (hu : P.underlying dT = some (.slice elem)) (hsz : (P.info? elem).map (·.size) = some 1)
    (g off dLen dCap sLen sCap : Nat) (sp : Option Addr) (hd : a.eval d = .slice (some ⟨g, off, none⟩) dLen dCap) (hs : a.eval s = .slice sp sLen sCap)
    (cur : List Value) (t : TypeId) (hg : At w g t cur) (src : List UInt8) (hsrc : Byt w sp src) (hl : src.length = sLen) (n : Nat) (hn : n = Nat.min sLen dLen) (cs : List UInt8) (hcs : src.take n = cs) (hfit : off + n ≤ cur.length)
    (h : ∀ w', PutB w w' g t (splice cur off (cs.map B8)) → wpList P ops Q rest (a.put o.dst (.int .i64 n)) w') : wpList P ops Q (o :: rest) a w := by
  subst hl
  subst hcs
  have hmin : Nat.min src.length dLen ≤ src.length := Nat.min_le_left _ _
  have hlen : (src.take n).length = n := by simp; omega
  by_cases h0 : n = 0
  · subst h0
    refine wpList_copy_nothing hgd d s dT sT ho elem hu hsz _ _ dLen dCap _ sCap hd hs hn.symm ?_
    refine h w ⟨World.grownBy.refl w _, rfl, ?_⟩
    simpa [splice] using hg
  · obtain ⟨ad, hsp, hc⟩ := hsrc (by omega) |> fun _ => hsrc.src (by omega)
    refine wpList_plain hgd fun K hK => ?_
    have hrun := run_copy_row (P := P) w dT sT o.type elem g off dLen dCap ad src.length sCap cur.toArray t ((src.take n).map B8) hu hsz hg (by simp; omega)
      (fun j v hv => hc j v (by
        rw [List.map_take, List.getElem?_take] at hv
        split at hv
        · exact hv
        · cases hv)) (by simp; omega) (B8_one _)
    have e : goInt ((src.take n).map B8).length = .int .i64 (n : Int) := by rw [List.length_map, hlen]; rfl
    rw [e] at hrun
    have hp : PutB w (w.setRow g (List.take off cur.toArray.toList ++ List.map B8 (List.take n src) ++ List.drop (off + (List.map B8 (List.take n src)).length) cur.toArray.toList).toArray) g t (splice cur off ((src.take n).map B8)) := by
      have := PutB.setRow hg (splice cur off ((src.take n).map B8))
      simpa [splice, hlen] using this
    generalize w.setRow g (List.take off cur.toArray.toList ++ List.map B8 (List.take n src) ++ List.drop (off + (List.map B8 (List.take n src)).length) cur.toArray.toList).toArray = w2 at hrun hp
    unfold Oper.wp
    simp [execOp, ho, resolve, invoke, builtin, hd, hs, hsp, hrun, Result.andThen]
    exact hK _ _ (h _ hp)
end

section
variable {P : Program} {fn : Func} {R : Ending → World → Prop} {a : Act} {w : World}
/-- The end of a function whose first result is an array or a struct in a block that is known, the second a slot. -/
theorem ret_cell_tmp (p : Tmp) (ty : TypeId) (q : Tmp) (h : fn.results = #[.cell p ty, .tmp q]) (g : Nat) (t : TypeId) (cs : List Value) (d : TypeDesc) (v : Value)
    (hp : a.tmps.getD p undef = .pointer (some ⟨g, 0, none⟩)) (hq : a.tmps.getD q undef = v) (hg : At w g t cs) (hu : P.underlying ty = some d) (hd : (match d with | .struct _ | .array _ _ => true | _ => false) = true)
    (hi : (P.info? ty).map (·.size) = some cs.length) (hdf : a.defers = []) (hR : R (.returned (.tuple #[.agg cs.toArray, v])) w) : bodyPost P fn R .ret a w := by
  refine bodyPost_ret ?_ hdf hR
  have hp' : a.tmps[p]?.getD undef = .pointer (some ⟨g, 0, none⟩) := by simpa using hp
  have hq' : a.tmps[q]?.getD undef = v := by simpa using hq
  simp [results, h, hp', hq', asAddr, run_loadVar_row w g t ty cs.toArray (0, 0) d hg hu hd (by simpa using hi)]
/-- The same for one result. -/
theorem ret_cell (p : Tmp) (ty : TypeId) (h : fn.results = #[.cell p ty]) (g : Nat) (t : TypeId) (cs : List Value) (d : TypeDesc)
    (hp : a.tmps.getD p undef = .pointer (some ⟨g, 0, none⟩)) (hg : At w g t cs) (hu : P.underlying ty = some d) (hd : (match d with | .struct _ | .array _ _ => true | _ => false) = true)
    (hi : (P.info? ty).map (·.size) = some cs.length) (hdf : a.defers = []) (hR : R (.returned (.agg cs.toArray)) w) : bodyPost P fn R .ret a w :=
  bodyPost_ret (results_cell_row h a.tmps w g t cs.toArray (0, 0) d hp hg hu hd (by simpa using hi)) hdf hR
end

/-- append of bytes onto bytes that the call owns. -/
theorem wpList_appB {P : Program} {w : World} {ops : Array Oper} {rest : List Oper} {o : Oper} {a : Act} {Q : Exit → Act → World → Prop} (hgd : o.guard = none) (s x : Operand) (t : TypeId)
    (ho : o.op = .call { callee := .builtin .append, args := #[s, x], argTypes := #[t, t] }) (base : Nat) (e : TypeId) (ht : P.underlying t = some (.slice e))
    (hi : (P.info? e).map (fun i => (i.zero, i.size, i.bytes)) = some (some (.int .u8 0), 1, 1)) (v : Value) (n : Nat) (xs : List UInt8) (hs : a.eval s = v) (hown : w.ownsRow base e 1 v n (xs.map B8))
    (sp : Option Addr) (m c : Nat) (bs : List UInt8) (hx : a.eval x = .slice sp m c) (hb : Byt w sp bs) (hl : bs.length = m) (hc : sp = none → c = 0) (hmax : n + m ≤ 140737488355328) (hbase : base ≤ w.heap.size)
    (h : ∀ v' w', w'.ownsRow base e 1 v' (n + m) ((xs ++ bs).map B8) → w.grownBy w' v.ownBlock → wpList P ops Q rest (a.put o.dst v') w') : wpList P ops Q (o :: rest) a w := by
  obtain ⟨i, hi1, hz0, hz1, hz2⟩ := info_parts hi
  cases sp with
  | none =>
    have h0 : m = 0 := by
      rcases Nat.eq_zero_or_pos m with h0 | h0
      · exact h0
      · obtain ⟨b, off, hcon, _⟩ := hb (by omega)
        cases hcon
    subst h0
    obtain rfl : bs = [] := List.eq_nil_of_length_eq_zero hl
    obtain rfl := hc rfl
    refine wpList_plain hgd fun K hK => ?_
    have hrun := run_append_owned_none (P := P) w base t o.type e i 1 ht hi1 v n (xs.map B8) hown
    unfold Oper.wp
    simp [execOp, ho, resolve, invoke, builtin, hs, hx, hrun, Result.andThen]
    exact hK _ _ (h _ _ (by simpa using hown) (World.grownBy.refl _ _))
  | some ad =>
    have hcells : ∀ j u, (bs.map B8)[j]? = some u → w.cell? (ad.add j) = some u := by
      intro j u hu
      have hp : 0 < bs.length := by have := (List.getElem?_eq_some_iff.1 hu).1; simp at this; omega
      obtain ⟨ad', e', hc'⟩ := hb.src hp
      injection e' with e'
      subst e'
      exact hc' j u hu
    refine wpList_append_own _ hgd s x t ho base e i _ 1 1 ht hi1 hz0 hz1 hz2 rfl (by omega) v n (xs.map B8) hs hown ad m c (bs.map B8) hx (by simp [hl]) hcells (B8_one bs) (by simp only [maxLen]; omega) (by omega) hbase ?_
    intro v' w' h1 h2 _
    exact h v' w' (by simpa using h1) h2

theorem own_byt {w : World} {base : Nat} {e : TypeId} {v : Value} {n : Nat} {bs : List UInt8} (h : w.ownsRow base e 1 v n (bs.map B8)) (hp : 0 < n) :
    n = bs.length ∧ ∃ g cap, v = .slice (some ⟨g, 0, none⟩) n cap ∧ base ≤ g ∧ Byt w (some ⟨g, 0, none⟩) bs := by
  have hn : n = bs.length := by have := h.1; simp at this; omega
  refine ⟨hn, ?_⟩
  rcases h.2 with ⟨_, h0⟩ | ⟨g, cap, cur, rfl, hb, hg, h1, h2, h3, h4⟩
  · omega
  · refine ⟨g, cap, rfl, hb, fun _ => ⟨g, 0, rfl, (Array.getElem?_eq_some_iff.1 hg).1, fun j hj => ?_⟩⟩
    have := h.cells (g := g) rfl j (B8 bs[j]) (by simp [hj])
    rw [add_plain'] at this
    exact this
theorem own_at {w : World} {base : Nat} {e : TypeId} {v : Value} {n : Nat} {bs : List UInt8} (h : w.ownsRow base e 1 v n (bs.map B8)) (hp : 0 < n) :
    n = bs.length ∧ ∃ g cap rest, v = .slice (some ⟨g, 0, none⟩) n cap ∧ base ≤ g ∧ At w g e (bs.map B8 ++ rest) := by
  have hn : n = bs.length := by have := h.1; simp at this; omega
  refine ⟨hn, ?_⟩
  rcases h.2 with ⟨_, h0⟩ | ⟨g, cap, cur, rfl, hb, hg, h1, h2, h3, h4⟩
  · omega
  · refine ⟨g, cap, cur.toList.drop n, rfl, hb, ?_⟩
    rw [Nat.mul_one] at h4
    unfold At
    rw [hg, ← h4, List.take_append_drop]
theorem At.bytPre {w : World} {g : Nat} {t : TypeId} {bs : List UInt8} {rest : List Value} (h : At w g t (bs.map B8 ++ rest)) : Byt w (some ⟨g, 0, none⟩) bs := fun _ =>
  ⟨g, 0, rfl, h.lt, fun j hj => by
    rw [Nat.zero_add, h.cell j (by simp; omega), List.getElem_append_left (by simpa using hj)]; simp⟩
theorem At.cellPre {w : World} {g : Nat} {t : TypeId} {bs : List UInt8} {rest : List Value} (h : At w g t (bs.map B8 ++ rest)) (i : Nat) (hi : i < bs.length) : w.cell? ⟨g, i, none⟩ = some (.int .u8 (bs[i].toNat : Int)) := by
  rw [h.cell i (by simp; omega), List.getElem_append_left (by simpa using hi)]; simp [B8]
theorem At.setPre {w : World} {g : Nat} {t : TypeId} {bs : List UInt8} {rest : List Value} (h : At w g t (bs.map B8 ++ rest)) (i : Nat) (hi : i < bs.length) (x : UInt8) :
    PutB w (w.setCell ⟨g, i, none⟩ (.int .u8 (x.toNat : Int))) g t ((bs.set i x).map B8 ++ rest) := by
  have := PutB.setCell h i (.int .u8 (x.toNat : Int))
  rw [List.set_append_left _ _ (by simpa using hi)] at this
  rw [List.map_set]
  exact this
/-- A new empty slice of bytes. -/
theorem own_empty (w : World) (e : TypeId) (base : Nat) (hb : base ≤ w.heap.size) : (w.alloc (.cells #[] e)).ownsRow base e 1 (.slice (some ⟨w.heap.size, 0, none⟩) 0 0) 0 (List.map B8 []) :=
  World.ownsRow_made w #[] 0 hb (by simp [maxLen]) (by simp)

/-- v is a new slice that holds the bytes bs. -/
def NewBytes (w w' : World) (v : Value) (bs : List UInt8) : Prop := ∃ g cap, v = .slice (some ⟨g, 0, none⟩) bs.length cap ∧ w.heap.size ≤ g ∧ Byt w' (some ⟨g, 0, none⟩) bs

/-- string(b) of bytes that lie anywhere. -/
theorem run_strB {P : Program} {w : World} (sT dT e : TypeId) (hs : P.underlying sT = some (.slice e)) (he : P.underlying e = some (.int .u8)) (hd : P.underlying dT = some .string) (A : Option Addr) (n c : Nat) (bs : List UInt8)
    (hb : Byt w A bs) (hl : bs.length = n) (hp : 0 < n) : (convert sT dT (.slice A n c)).run P w = .ok (.string ⟨bs.toArray⟩) w := by
  subst hl
  obtain ⟨b, off, rfl, _, hc⟩ := hb hp
  have := run_convert_bytes_arg (P := P) (w := w) sT e hs he b off bs.length c (bs.map fun x => (x.toNat : Int)) (by simp) (fun i hi => by
    rw [hc i hi]; simp [B8, List.getD, hi]) dT hd
  rw [this]
  have e : strOfNums (bs.map fun x => (x.toNat : Int)) = ⟨bs.toArray⟩ := by
    unfold strOfNums
    rw [List.map_map]
    rw [show ((fun n : Int => UInt8.ofNat n.toNat) ∘ fun x : UInt8 => (x.toNat : Int)) = id from funext fun x => by simp]
    rw [List.map_id]
  rw [e]
theorem wpList_strB {P : Program} {w : World} {ops : Array Oper} {rest : List Oper} {o : Oper} {a : Act} {Q : Exit → Act → World → Prop} (hgd : o.guard = none) (sT dT : TypeId) (x : Operand) (ho : o.op = .convert sT dT x) (e : TypeId)
    (hs : P.underlying sT = some (.slice e)) (he : P.underlying e = some (.int .u8)) (hd : P.underlying dT = some .string) (A : Option Addr) (n c : Nat) (bs : List UInt8) (hx : a.eval x = .slice A n c)
    (hb : Byt w A bs) (hl : bs.length = n) (hp : 0 < n) (h : wpList P ops Q rest (a.put o.dst (.string ⟨bs.toArray⟩)) w) : wpList P ops Q (o :: rest) a w := by
  refine wpList_plain hgd fun K hK => ?_
  have hrun := run_strB (P := P) sT dT e hs he hd A n c bs hb hl hp
  unfold Oper.wp
  simp [execOp, ho, hx, hrun, Result.andThen]
  exact hK _ _ h

theorem forall_u8 {p : UInt8 → Prop} (h : ∀ n : Fin 256, p (UInt8.ofNat n.val)) (x : UInt8) : p x := by
  have := h ⟨x.toNat, x.toNat_lt⟩
  simpa using this
theorem ofInt_u8 (a : UInt8) : BitVec.ofInt 8 (a.toNat : Int) = a.toBitVec := by
  rw [BitVec.ofInt_natCast]; simp [← UInt8.toNat_toBitVec]
theorem wrap_u8_nat (n : Nat) (h : n < 256) : IntKind.u8.wrap (n : Int) = n := by
  simp [IntKind.wrap, IntKind.bits, IntKind.signed]; omega
theorem u8_and (a b : UInt8) : bits .and .u8 (a.toNat : Int) (b.toNat : Int) = ((a &&& b).toNat : Int) := by
  show IntKind.u8.wrap ((BitVec.ofInt 8 (a.toNat : Int) &&& BitVec.ofInt 8 (b.toNat : Int)).toNat : Int) = _
  rw [ofInt_u8, ofInt_u8, wrap_u8_nat _ (BitVec.isLt _)]
  rfl
theorem u8_or (a b : UInt8) : bits .or .u8 (a.toNat : Int) (b.toNat : Int) = ((a ||| b).toNat : Int) := by
  show IntKind.u8.wrap ((BitVec.ofInt 8 (a.toNat : Int) ||| BitVec.ofInt 8 (b.toNat : Int)).toNat : Int) = _
  rw [ofInt_u8, ofInt_u8, wrap_u8_nat _ (BitVec.isLt _)]
  rfl

theorem splice_all {α : Type} (L cs : List α) (h : cs.length = L.length) : splice L 0 cs = cs := by
  unfold splice
  simp [h]
end Go.Proofs.Ytahkgkonpjimpaa
