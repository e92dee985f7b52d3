/-
  Aids for functions that make memory and call: chains of writers, single runs.
-/
import Derived.Test.YtahkgkonpjimpaaSha1New
import Derived.Test.YtahkgkonpjimpaaSet
import Derived.Lib.ConvBytes
import Derived.Laws.MakeOwn
namespace Go.Proofs.Ytahkgkonpjimpaa
open Go.RowKit
set_option linter.unusedVariables false
/-- Some operations of a region write, one behind the other: Ps j holds when the first j of them have come up. -/
def ChS (is : List Nat) (Ps : Nat → World → Prop) (l : Array Bool) (w : World) : Prop := ∃ k, k ≤ is.length ∧ (∀ j i, is[j]? = some i → l.getD i false = decide (j < k)) ∧ Ps k w
section
variable {is : List Nat} {Ps : Nat → World → Prop} {l : Array Bool} {w w' : World}
theorem ChS.start (n : Nat) (h : Ps 0 w) : ChS is Ps (Array.replicate n false) w := ⟨0, Nat.zero_le _, fun j i _ => by rw [getD_replicate_false]; simp, h⟩
theorem ChS.other (h : ChS is Ps l w) (q : Nat) (hq : q ∉ is) : ChS is Ps (l.setIfInBounds q true) w := by
  obtain ⟨k, h1, h2, h3⟩ := h
  refine ⟨k, h1, fun j i hj => ?_, h3⟩
  have hne : q ≠ i := fun e => hq (e ▸ List.mem_of_getElem? hj)
  rw [getD_set_ne false hne]
  exact h2 j i hj
theorem ChS.here (h : ChS is Ps l w) (j i : Nat) (hj : is[j]? = some i) (hun : l.getD i false = false) (hpre : j = 0 ∨ ∃ i', is[j - 1]? = some i' ∧ l.getD i' false = true) : Ps j w := by
  obtain ⟨k, h1, h2, h3⟩ := h
  have a := h2 j i hj
  rw [hun] at a
  have a' : ¬ j < k := by simpa using a.symm
  have hk : k = j := by
    rcases hpre with h0 | ⟨i', hi', hl⟩
    · omega
    · have b := h2 (j - 1) i' hi'
      rw [hl] at b
      have : j - 1 < k := by simpa using b.symm
      omega
  exact hk ▸ h3
theorem ChS.next (h : ChS is Ps l w) (j i : Nat) (hj : is[j]? = some i) (hun : l.getD i false = false) (hpre : j = 0 ∨ ∃ i', is[j - 1]? = some i' ∧ l.getD i' false = true) (hnd : is.Nodup) (hi : i < l.size) (h' : Ps (j + 1) w') : ChS is Ps (l.setIfInBounds i true) w' := by
  obtain ⟨k, h1, h2, h3⟩ := h
  have a := h2 j i hj
  rw [hun] at a
  have a' : ¬ j < k := by simpa using a.symm
  have hlt := (List.getElem?_eq_some_iff.1 hj).1
  have hk : k = j := by
    rcases hpre with h0 | ⟨i', hi', hl⟩
    · omega
    · have b := h2 (j - 1) i' hi'
      rw [hl] at b
      have : j - 1 < k := by simpa using b.symm
      omega
  refine ⟨j + 1, hlt, fun j' i' hj' => ?_, h'⟩
  by_cases he : j' = j
  · have : i' = i := by rw [he, hj] at hj'; exact (Option.some.inj hj').symm
    subst this
    rw [show (l.setIfInBounds i' true).getD i' false = true by simp [hi]]
    simp [he]
  · have hne : i ≠ i' := fun e => he ((List.getElem?_inj (List.getElem?_eq_some_iff.1 hj').1 hnd).1 (hj'.trans (e ▸ hj.symm)))
    rw [getD_set_ne false hne, h2 j' i' hj', hk]
    congr 1
    apply propext
    omega
theorem ChS.end_ (h : ChS is Ps l w) (j i : Nat) (hj : is[j]? = some i) (hlast : j + 1 = is.length) (hl : l.getD i false = true) : Ps (j + 1) w := by
  obtain ⟨k, h1, h2, h3⟩ := h
  have a := h2 j i hj
  rw [hl] at a
  have : j < k := by simpa using a.symm
  have hk : k = j + 1 := by omega
  exact hk ▸ h3
end
section
variable {P : Program} {ρ : Operand → Value} {o : Oper}
theorem alloc_run {T : TypeId} (ho : o.op = .alloc T) (z : Value) (zs : List Value) (hz : ∀ w, (zeroValue T).run P w = .ok z w) (hzs : z.cells = zs.toArray) (w : World) (b : Nat) (hb : w.heap.size = b) :
    ∃ w', (execOp ρ o).run P w = .ok (.value (.pointer (some ⟨b, 0, none⟩))) w' ∧ NewB w w' T zs := by
  subst hb
  have hrun : (Instr.alloc T true (.tuple #[])).run P w = .ok (.pointer (some ⟨w.heap.size, 0, none⟩)) (w.alloc (.cells zs.toArray T)) := by
    unfold Instr.alloc
    rw [Sem.run_bind, hz]
    simp only [Result.andThen]
    unfold newVar newRow
    rw [hzs]
    rfl
  refine ⟨_, ?_, NewB.alloc w T zs⟩
  unfold execOp
  simp only [ho, Sem.run_bind, hrun, Result.andThen_ok, Sem.run_pure]
theorem conv_run {sT dT e : TypeId} {x : Operand} (ho : o.op = .convert sT dT x) {u : TypeDesc} (hs : P.underlying sT = some u) (hd : P.underlying dT = some (.slice e)) (he : P.underlying e = some (.int .u8)) (s : ByteArray) (hx : ρ x = .string s) (w : World) (b : Nat) (hb : w.heap.size = b) (l : List UInt8) (hl : s.data.toList = l) (c : Nat) (hc : grownCap w s.size 0 e = c) :
    ∃ w', (execOp ρ o).run P w = .ok (.value (.slice (some ⟨b, 0, none⟩) l.length c)) w' ∧ l.length ≤ c ∧ Byt w' (some ⟨b, 0, none⟩) l ∧ w'.heap.size = b + 1 ∧ Below w.heap.size w w' := by
  subst hb
  subst hl
  subst hc
  have hrun := Lib.run_convert_string_bytes w sT dT e s hs hd he
  have hsz : s.size = s.data.toList.length := by simp
  refine ⟨Lib.bytesWorld w e s, ?_, by rw [← hsz]; exact by simpa using grownCap_ge w s.size 0 e, fun _ => ⟨w.heap.size, 0, rfl, by rw [Lib.bytesWorld_size]; omega, fun j hj => ?_⟩, Lib.bytesWorld_size w e s, rfl, rfl, rfl, by rw [Lib.bytesWorld_size]; omega, fun k hk => Lib.bytesWorld_at_old w e s k hk⟩
  · rw [← hsz]
    unfold execOp
    simp only [ho, hx, Sem.run_bind, hrun, Result.andThen_ok, Sem.run_pure]
  · rw [Nat.zero_add]
    rw [Lib.bytesWorld_cell w e s j (by simpa using hj)]
    have hj' : j < s.data.toList.length := hj
    unfold B8
    simp only [List.getD, List.getElem?_eq_getElem hj', Option.getD_some]
theorem make_run {t e : TypeId} {l c : Operand} (ho : o.op = .makeSlice t l c) (ht : P.underlying t = some (.slice e)) (hi : (P.info? e).map (fun i => (i.zero, i.size, i.bytes)) = some (some (.int .u8 0), 1, 1)) (m : Nat) (hm : m ≤ 1000) (hl : ρ l = .int .i64 0) (hc : ρ c = .int .i64 (m : Int)) (w : World) (b : Nat) (hb : w.heap.size = b) :
    ∃ w', (execOp ρ o).run P w = .ok (.value (.slice (some ⟨b, 0, none⟩) 0 m)) w' ∧ NewB w w' e (List.replicate m (.int .u8 0)) := by
  subst hb
  obtain ⟨i, hi1, hz0, hz1, hz2⟩ := info_parts hi
  have hrun := run_makeSlice (P := P) (w := w) t e i _ ht hi1 hz0 .i64 .i64 0 (m : Int) (by omega) (by omega) (by rw [hz1]; omega) (by rw [hz2]; omega) (by omega)
  have hmade : madeCells (Value.int IntKind.u8 0).cells ((m : Int).toNat * i.size) = (List.replicate m (Value.int IntKind.u8 0)).toArray := by
    rw [hz1, Int.toNat_natCast, Nat.mul_one]
    apply Array.ext
    · simp [madeCells]
    · intro j h1 h2
      simp only [madeCells, Value.cells]
      simp [Nat.mod_one]
  rw [hmade] at hrun
  refine ⟨_, ?_, NewB.alloc w e _⟩
  unfold execOp
  simp only [ho, hl, hc, Sem.run_bind, hrun, Result.andThen_ok, Sem.run_pure]
  simp
end
/-- A parameter boxed, and a variable. -/
theorem reg_box_var {P : Program} {id : Nat} {o1 o2 : Oper} {Q : Exit → Act → World → Prop} {a : Act} {w : World} (N : Nat) (env : Env) (d1 d2 x : Nat) (T : TypeId) (cs : List Value) (T2 : TypeId) (z : Value) (zs : List Value)
    (g1 : o1.guard = none) (g2 : o2.guard = none) (e1 : o1.dst = some d1) (e2 : o2.dst = some d2) (p1 : o1.op = .box T (.tmp x)) (p2 : o2.op = .alloc T2)
    (hx : (x, .agg cs.toArray) ∈ env) (hz : ∀ w, (zeroValue T2).run P w = .ok z w) (hzs : z.cells = zs.toArray)
    (hfr : Fr N env a) (hd1 : d1 < N) (hd2 : d2 < N) (hne : d1 ≠ d2) (hn1 : env.all (fun p => !Nat.beq p.1 d1) = true) (hn2 : env.all (fun p => !Nat.beq p.1 d2) = true)
    (h : ∀ a' w1 w2, NewB w w1 T cs → NewB w1 w2 T2 zs → Fr N ((d2, .pointer (some ⟨w1.heap.size, 0, none⟩)) :: (d1, .pointer (some ⟨w.heap.size, 0, none⟩)) :: env) a' → Q .normal a' w2) : (Code.region id #[o1, o2] false).wp P Q a w := by
  refine wp_region_list ?_
  show wpList P _ Q [o1, o2] a w
  refine wpList_boxed g1 T (.tmp x) p1 (.agg cs.toArray) cs (hfr.get hx) rfl fun w1 hw1 => ?_
  rw [e1]
  have f1 := hfr.put d1 (.pointer (some ⟨w.heap.size, 0, none⟩)) hd1 hn1
  refine wpList_var g2 T2 p2 z zs hz hzs fun w2 hw2 => ?_
  rw [e2]
  show Q .normal _ w2
  refine h _ w1 w2 hw1 hw2 (f1.put d2 _ hd2 ?_)
  rw [List.all_cons, Bool.and_eq_true]
  exact ⟨by cases hb : Nat.beq d1 d2 with
    | true => exact absurd (Nat.eq_of_beq_eq_true hb) hne
    | false => rfl, hn2⟩
end Go.Proofs.Ytahkgkonpjimpaa
