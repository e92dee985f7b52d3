/-
  A region whose order is open and of which two operations, numbers c and e, write memory, e behind c.
-/
import Derived.Test.YtppcpidlnpencaaReg
namespace Go.Proofs.Ytppcpidlnpencaa
open Go.RowKit
set_option linter.unusedVariables false
def RW (ops : Array Oper) (F : (Nat → Value) → Act) (C : Nat → Value → Prop) (S : Bool → Bool → World → Prop) (c e : Nat) (listed : Array Bool) (a : Act) (w : World) : Prop :=
  ∃ v : Nat → Value, a = F v ∧ (∀ j, listed.getD j false = true → C j (v j)) ∧ S (listed.getD c false) (listed.getD e false) w ∧ ∀ j p, listed.getD j false = true → Region.waitsFor .any ops j p = true → listed.getD p false = true
theorem RW.close {ops : Array Oper} {listed : Array Bool} {i : Nat} (hr : i ∈ Region.ready .any ops listed) (hcl : ∀ j p, listed.getD j false = true → Region.waitsFor .any ops j p = true → listed.getD p false = true) :
    ∀ j p, (listed.setIfInBounds i true).getD j false = true → Region.waitsFor .any ops j p = true → (listed.setIfInBounds i true).getD p false = true := by
  intro j p hj hwt
  by_cases hji : j = i
  · subst hji; exact getD_set_true (ready_pred hwt hr)
  · rw [getD_set_ne false (Ne.symm hji)] at hj
    exact getD_set_true (hcl j p hj hwt)
theorem stepRW {P : Program} {ops : Array Oper} {Q : Exit → Act → World → Prop} {F : (Nat → Value) → Act} {C : Nat → Value → Prop} {S : Bool → Bool → World → Prop} {c e i : Nat} {o : Oper} (ps : List Nat)
    (ho : ops[i]? = some o) (hg : o.guard = none) (hic : (i == c) = false) (hie : (i == e) = false) (hp : ps.all (Region.waitsFor .any ops i) = true)
    (h : ∀ d1 d2 v w, (Region.waitsFor .any ops c i = true → d1 = false) → (Region.waitsFor .any ops e i = true → d2 = false) → (∀ p, ps.contains p = true → C p (v p)) → S d1 d2 w →
      ∀ K : Act → World → Prop, Hid (∀ a u, a = F (upd v i u) → C i u → K a w) → Oper.wp P o (F v) w K Q) : StepI P ops Q (RW ops F C S c e) i :=
  stepI ho fun li a w hr hs hI K hK => by
    obtain ⟨v, rfl, hv, hS, hcl⟩ := hI
    have hw : Region.wanted o (yielded ops (F v).tmps) = true := by unfold Region.wanted; rw [hg]
    have hun : li.getD i false = false := getD_both (mem_ready.1 hr).1
    rw [if_pos hw]
    have key : ∀ x, Region.waitsFor .any ops x i = true → li.getD x false = false := fun x hx => Bool.eq_false_iff.2 fun hli => by
      have := hcl x i hli hx
      rw [hun] at this
      cases this
    refine h _ _ v w (key c) (key e) (fun p hp' => hv p (ready_pred (List.all_eq_true.1 hp p (by simpa using hp')) hr)) hS K (Lib.hid fun a u ha hc => hK.out a w ?_)
    have hne : i ≠ c := by simpa using hic
    have hne' : i ≠ e := by simpa using hie
    refine ⟨upd v i u, ha, fun j hj => ?_, by rw [getD_set_ne false hne, getD_set_ne false hne']; exact hS, RW.close hr hcl⟩
    by_cases hji : j = i
    · subst hji; rw [upd_same]; exact hc
    · rw [upd_other _ _ _ _ hji]
      rw [getD_set_ne false (Ne.symm hji)] at hj
      exact hv j hj
theorem stepRWc {P : Program} {ops : Array Oper} {Q : Exit → Act → World → Prop} {F : (Nat → Value) → Act} {C : Nat → Value → Prop} {S : Bool → Bool → World → Prop} {c e : Nat} {o : Oper} (ps : List Nat)
    (ho : ops[c]? = some o) (hg : o.guard = none) (hce : (c == e) = false) (hec : Region.waitsFor .any ops e c = true) (hp : ps.all (Region.waitsFor .any ops c) = true)
    (h : ∀ v w, (∀ p, ps.contains p = true → C p (v p)) → S false false w →
      ∀ K : Act → World → Prop, Hid (∀ a u w', a = F (upd v c u) → C c u → S true false w' → K a w') → Oper.wp P o (F v) w K Q) : StepI P ops Q (RW ops F C S c e) c :=
  stepI ho fun li a w hr hs hI K hK => by
    obtain ⟨v, rfl, hv, hS, hcl⟩ := hI
    have hw : Region.wanted o (yielded ops (F v).tmps) = true := by unfold Region.wanted; rw [hg]
    have hun : li.getD c false = false := getD_both (mem_ready.1 hr).1
    have hen : li.getD e false = false := Bool.eq_false_iff.2 fun hli => by
      have := hcl e c hli hec
      rw [hun] at this
      cases this
    rw [if_pos hw]
    rw [hun, hen] at hS
    have hne : c ≠ e := by simpa using hce
    refine h v w (fun p hp' => hv p (ready_pred (List.all_eq_true.1 hp p (by simpa using hp')) hr)) hS K (Lib.hid fun a u w' ha hc hS' => hK.out a w' ?_)
    have e1 : (li.setIfInBounds c true).getD c false = true := by simp [hs]
    refine ⟨upd v c u, ha, fun j hj => ?_, by rw [e1, getD_set_ne false hne, hen]; exact hS', RW.close hr hcl⟩
    by_cases hji : j = c
    · subst hji; rw [upd_same]; exact hc
    · rw [upd_other _ _ _ _ hji]
      rw [getD_set_ne false (Ne.symm hji)] at hj
      exact hv j hj
theorem stepRWe {P : Program} {ops : Array Oper} {Q : Exit → Act → World → Prop} {F : (Nat → Value) → Act} {C : Nat → Value → Prop} {S : Bool → Bool → World → Prop} {c e : Nat} {o : Oper} (ps : List Nat)
    (ho : ops[e]? = some o) (hg : o.guard = none) (hce : (c == e) = false) (hec : Region.waitsFor .any ops e c = true) (hp : ps.all (Region.waitsFor .any ops e) = true)
    (h : ∀ v w, (∀ p, ps.contains p = true → C p (v p)) → S true false w →
      ∀ K : Act → World → Prop, Hid (∀ a u w', a = F (upd v e u) → C e u → S true true w' → K a w') → Oper.wp P o (F v) w K Q) : StepI P ops Q (RW ops F C S c e) e :=
  stepI ho fun li a w hr hs hI K hK => by
    obtain ⟨v, rfl, hv, hS, hcl⟩ := hI
    have hw : Region.wanted o (yielded ops (F v).tmps) = true := by unfold Region.wanted; rw [hg]
    have hun : li.getD e false = false := getD_both (mem_ready.1 hr).1
    have hcn : li.getD c false = true := ready_pred hec hr
    rw [if_pos hw]
    rw [hun, hcn] at hS
    have hne : c ≠ e := by simpa using hce
    refine h v w (fun p hp' => hv p (ready_pred (List.all_eq_true.1 hp p (by simpa using hp')) hr)) hS K (Lib.hid fun a u w' ha hc hS' => hK.out a w' ?_)
    have e1 : (li.setIfInBounds e true).getD e false = true := by simp [hs]
    refine ⟨upd v e u, ha, fun j hj => ?_, by rw [e1, getD_set_ne false (Ne.symm hne), hcn]; exact hS', RW.close hr hcl⟩
    by_cases hji : j = e
    · subst hji; rw [upd_same]; exact hc
    · rw [upd_other _ _ _ _ hji]
      rw [getD_set_ne false (Ne.symm hji)] at hj
      exact hv j hj
theorem wp_region_rw {P : Program} {ops : Array Oper} {Q : Exit → Act → World → Prop} {id : Nat} {a : Act} {w : World} (F : (Nat → Value) → Act) (C : Nat → Value → Prop) (S : Bool → Bool → World → Prop) (c e : Nat) (v0 : Nat → Value) (l : List Nat)
    (hm : P.follows .mixedOrders = true) (hlow : lowB ops = true) (hl : List.range ops.size = l) (hc : (c < ops.size)) (he : (e < ops.size)) (ha : a = F v0)
    (h0 : S false false w.drew) (hs : AllI P ops Q (RW ops F C S c e) l)
    (hd : ∀ v w, (∀ j, j < ops.size → C j (v j)) → S true true w → Q .normal (F v) w) : (Code.region id ops true).wp P Q a w :=
  wp_region_inv (RW ops F C S c e) l hm hlow hl ⟨v0, ha, (fun j hj => by rw [getD_replicate_false] at hj; cases hj), by rw [getD_replicate_false, getD_replicate_false]; exact h0, (fun j p hj => by rw [getD_replicate_false] at hj; cases hj)⟩ hs fun li a w hall hI => by
    obtain ⟨v, rfl, hv, hS, -⟩ := hI
    rw [hall c hc, hall e he] at hS
    exact hd v w (fun j hj => hv j (hall j hj)) hS
end Go.Proofs.Ytppcpidlnpencaa
