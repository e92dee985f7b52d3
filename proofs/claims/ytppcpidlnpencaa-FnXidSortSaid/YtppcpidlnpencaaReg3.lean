/-
  A region whose order is open and of which one operation, number c, writes memory: S false before it, S true behind it.
-/
import Derived.Test.YtppcpidlnpencaaReg
namespace Go.Proofs.Ytppcpidlnpencaa
open Go.RowKit
set_option linter.unusedVariables false
def RJ (F : (Nat → Value) → Act) (C : Nat → Value → Prop) (S : Bool → World → Prop) (c : Nat) (listed : Array Bool) (a : Act) (w : World) : Prop :=
  ∃ v : Nat → Value, a = F v ∧ (∀ j, listed.getD j false = true → C j (v j)) ∧ S (listed.getD c false) w
theorem stepRJ {P : Program} {ops : Array Oper} {Q : Exit → Act → World → Prop} {F : (Nat → Value) → Act} {C : Nat → Value → Prop} {S : Bool → World → Prop} {c i : Nat} {o : Oper} (ps : List Nat)
    (ho : ops[i]? = some o) (hg : o.guard = none) (hic : (i == c) = false) (hp : ps.all (Region.waitsFor .any ops i) = true)
    (h : ∀ d v w, (∀ p, ps.contains p = true → C p (v p)) → S d w →
      ∀ K : Act → World → Prop, Hid (∀ a u, a = F (upd v i u) → C i u → K a w) → Oper.wp P o (F v) w K Q) : StepI P ops Q (RJ F C S c) i :=
  stepI ho fun li a w hr hs hI K hK => by
    obtain ⟨v, rfl, hv, hS⟩ := hI
    have hw : Region.wanted o (yielded ops (F v).tmps) = true := by unfold Region.wanted; rw [hg]
    rw [if_pos hw]
    refine h _ v w (fun p hp' => hv p (ready_pred (List.all_eq_true.1 hp p (by simpa using hp')) hr)) hS K (Lib.hid fun a u ha hc => hK.out a w ?_)
    have hne : i ≠ c := by simpa using hic
    refine ⟨upd v i u, ha, fun j hj => ?_, by rw [getD_set_ne false hne]; exact hS⟩
    by_cases hji : j = i
    · subst hji; rw [upd_same]; exact hc
    · rw [upd_other _ _ _ _ hji]
      rw [getD_set_ne false (Ne.symm hji)] at hj
      exact hv j hj
theorem stepRJc {P : Program} {ops : Array Oper} {Q : Exit → Act → World → Prop} {F : (Nat → Value) → Act} {C : Nat → Value → Prop} {S : Bool → World → Prop} {c : Nat} {o : Oper} (ps : List Nat)
    (ho : ops[c]? = some o) (hg : o.guard = none) (hp : ps.all (Region.waitsFor .any ops c) = true)
    (h : ∀ v w, (∀ p, ps.contains p = true → C p (v p)) → S false w →
      ∀ K : Act → World → Prop, Hid (∀ a u w', a = F (upd v c u) → C c u → S true w' → K a w') → Oper.wp P o (F v) w K Q) : StepI P ops Q (RJ F C S c) c :=
  stepI ho fun li a w hr hs hI K hK => by
    obtain ⟨v, rfl, hv, hS⟩ := hI
    have hw : Region.wanted o (yielded ops (F v).tmps) = true := by unfold Region.wanted; rw [hg]
    have hun : li.getD c false = false := getD_both (mem_ready.1 hr).1
    rw [if_pos hw]
    rw [hun] at hS
    refine h v w (fun p hp' => hv p (ready_pred (List.all_eq_true.1 hp p (by simpa using hp')) hr)) hS K (Lib.hid fun a u w' ha hc hS' => hK.out a w' ?_)
    have e : (li.setIfInBounds c true).getD c false = true := by simp [hs]
    refine ⟨upd v c u, ha, fun j hj => ?_, by rw [e]; exact hS'⟩
    by_cases hji : j = c
    · subst hji; rw [upd_same]; exact hc
    · rw [upd_other _ _ _ _ hji]
      rw [getD_set_ne false (Ne.symm hji)] at hj
      exact hv j hj
theorem wp_region_rj {P : Program} {ops : Array Oper} {Q : Exit → Act → World → Prop} {id : Nat} {a : Act} {w : World} (F : (Nat → Value) → Act) (C : Nat → Value → Prop) (S : Bool → World → Prop) (c : Nat) (v0 : Nat → Value) (l : List Nat)
    (hm : P.follows .mixedOrders = true) (hlow : lowB ops = true) (hl : List.range ops.size = l) (hc : (c < ops.size)) (ha : a = F v0)
    (h0 : S false w.drew) (hs : AllI P ops Q (RJ F C S c) l)
    (hd : ∀ v w, (∀ j, j < ops.size → C j (v j)) → S true w → Q .normal (F v) w) : (Code.region id ops true).wp P Q a w :=
  wp_region_inv (RJ F C S c) l hm hlow hl ⟨v0, ha, (fun j hj => by rw [getD_replicate_false] at hj; cases hj), by rw [getD_replicate_false]; exact h0⟩ hs fun li a w hall hI => by
    obtain ⟨v, rfl, hv, hS⟩ := hI
    rw [hall c hc] at hS
    exact hd v w (fun j hj => hv j (hall j hj)) hS
end Go.Proofs.Ytppcpidlnpencaa
