/-
  Composite values built of operands: arrays and structs, slices.
-/
import Derived.Test.YtahkgkonpjimpaaBase
namespace Go.Proofs.Ytahkgkonpjimpaa
open Go.RowKit
set_option linter.unusedVariables false
theorem wpList_buildC {P : Program} {ops : Array Oper} {rest : List Oper} {o : Oper} {a : Act} {w : World} {Q : Exit → Act → World → Prop} (hgd : o.guard = none) (t : TypeId) (parts : Array (Nat × Operand)) (vs : Array (Nat × Value)) (ho : o.op = .build t parts) (hvs : (parts.map fun (i, x) => (i, a.eval x)) = vs) (v : Value)
    (hrun : ∀ w, (Instr.build t vs).run P w = .ok v w) (h : wpList P ops Q rest (a.put o.dst v) w) : wpList P ops Q (o :: rest) a w := by
  refine wpList_plain hgd fun K hK => ?_
  unfold Oper.wp execOp
  simp only [ho, hvs, Sem.run_bind, hrun, Result.andThen_ok, Sem.run_pure]
  exact hK _ _ h
theorem wpList_buildS {P : Program} {ops : Array Oper} {rest : List Oper} {o : Oper} {a : Act} {w : World} {Q : Exit → Act → World → Prop} (hgd : o.guard = none) (t e : TypeId) (n : Nat) (parts : Array (Nat × Operand)) (vs : Array (Nat × Value)) (ho : o.op = .buildSlice t n parts) (hvs : (parts.map fun (i, x) => (i, a.eval x)) = vs) (cs : List Value)
    (hrun : ∀ w, (Instr.buildSlice t n vs).run P w = .ok (.slice (some ⟨w.heap.size, 0, none⟩) n n) (w.alloc (.cells cs.toArray e))) (h : ∀ w', NewB w w' e cs → wpList P ops Q rest (a.put o.dst (.slice (some ⟨w.heap.size, 0, none⟩) n n)) w') : wpList P ops Q (o :: rest) a w := by
  refine wpList_plain hgd fun K hK => ?_
  unfold Oper.wp execOp
  simp only [ho, hvs, Sem.run_bind, hrun, Result.andThen_ok, Sem.run_pure]
  exact hK _ _ (h _ (NewB.alloc w e cs))
theorem wpList_build0 {P : Program} {ops : Array Oper} {rest : List Oper} {o : Oper} {a : Act} {w : World} {Q : Exit → Act → World → Prop} (hgd : o.guard = none) (t : TypeId) (ho : o.op = .build t #[]) (v : Value)
    (hrun : ∀ w, (Instr.build t #[]).run P w = .ok v w) (h : wpList P ops Q rest (a.put o.dst v) w) : wpList P ops Q (o :: rest) a w := by
  refine wpList_plain hgd fun K hK => ?_
  unfold Oper.wp execOp
  simp only [ho, Array.map_empty, Sem.run_bind, hrun, Result.andThen_ok, Sem.run_pure]
  exact hK _ _ h
end Go.Proofs.Ytahkgkonpjimpaa
