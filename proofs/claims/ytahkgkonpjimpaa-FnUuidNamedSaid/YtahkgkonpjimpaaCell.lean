/-
  One cell stored into a block that is known.
-/
import Derived.Test.YtahkgkonpjimpaaBase
namespace Go.Proofs.Ytahkgkonpjimpaa
open Go.RowKit
set_option linter.unusedVariables false
section
variable {P : Program}
theorem run_storeOne (w : World) (b o : Nat) (ty : TypeId) (k : IntKind) (n : Int) (ht : w.there b o 1) (hi : (P.info? ty).map (·.size) = some 1) :
    (storeVar ty ⟨b, o, none⟩ (.int k n)).run P w = .ok () (w.setCell ⟨b, o, none⟩ (.int k n)) := by
  have := run_storeCells_cells (P := P) b o [.int k n] 0 w (fun j hj => by simpa using (ht j (by simpa using hj)).1) (fun j hj => by simpa using (ht j (by simpa using hj)).2)
    (fun v hv => by simp at hv; subst hv; rfl)
  cases hq : P.info? ty with
  | none => simp [hq] at hi
  | some i =>
    have hs : i.size = 1 := by simpa [hq] using hi
    simp only [Nat.add_zero] at this
    simp [storeVar, sizeOf, typeInfo, hq, Value.cells, hs, this, World.setCells]
theorem wpList_setc {ops : Array Oper} {rest : List Oper} {op : Oper} {a : Act} {w : World} {Q : Exit → Act → World → Prop} (hgd : op.guard = none) (ty : TypeId) (x y : Operand) (ho : op.op = .store ty x y)
    (g i : Nat) (k : IntKind) (n : Int) (hx : a.eval x = .pointer (some ⟨g, i, none⟩)) (hy : a.eval y = .int k n)
    (t : TypeId) (cur : List Value) (hg : At w g t cur) (hlt : i < cur.length) (hi : (P.info? ty).map (·.size) = some 1)
    (h : ∀ w', PutB w w' g t (cur.set i (.int k n)) → wpList P ops Q rest (a.put op.dst undef) w') : wpList P ops Q (op :: rest) a w := by
  refine wpList_plain hgd fun K hK => ?_
  have ht : w.there g i 1 := fun j hj => by
    obtain rfl : j = 0 := by omega
    exact ⟨by rw [Nat.add_zero, hg.cell i hlt]; rfl, by rw [Nat.add_zero]; exact hg.frozen i⟩
  unfold Oper.wp execOp
  simp only [ho, hx, hy, Instr.storeAt, Instr.sureAddr, Sem.run_bind, Sem.run_pure, Result.andThen_ok, run_storeOne w g i ty k n ht hi]
  exact hK _ _ (h _ (PutB.setCell hg i _))
theorem run_loadOne (w : World) (b o : Nat) (ty : TypeId) (v : Value) (d : TypeDesc) (hc : w.cell? ⟨b, o, none⟩ = some v) (hu : P.underlying ty = some d) (hd : d.isRow = false) :
    (loadVar ty ⟨b, o, none⟩).run P w = .ok v w := by
  have hagg : (isAgg ty).run P w = .ok false w := by
    unfold isAgg
    rw [Sem.run_bind, run_underlying hu w]
    cases d <;> simp_all
  simp [loadVar, Sem.run_bind, hagg, run_load, hc]
theorem wpList_getc {ops : Array Oper} {rest : List Oper} {op : Oper} {a : Act} {w : World} {Q : Exit → Act → World → Prop} (hgd : op.guard = none) (ty : TypeId) (x : Operand) (ho : op.op = .load ty x)
    (b o : Nat) (v : Value) (hx : a.eval x = .pointer (some ⟨b, o, none⟩)) (hc : w.cell? ⟨b, o, none⟩ = some v) (d : TypeDesc) (hu : P.underlying ty = some d) (hd : d.isRow = false)
    (h : wpList P ops Q rest (a.put op.dst v) w) : wpList P ops Q (op :: rest) a w := by
  refine wpList_plain hgd fun K hK => ?_
  unfold Oper.wp execOp
  simp only [ho, hx, Instr.loadAt, Instr.sureAddr, Sem.run_bind, Sem.run_pure, Result.andThen_ok, run_loadOne w b o ty v d hc hu hd]
  exact hK _ _ h
end
end Go.Proofs.Ytahkgkonpjimpaa
