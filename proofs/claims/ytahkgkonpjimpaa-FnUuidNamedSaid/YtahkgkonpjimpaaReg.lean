/-
  A region whose order is open, walked by an invariant on what has come up.
-/
import Derived.Test.YtahkgkonpjimpaaBase
import Derived.RegionTactic
import Derived.StillTail
namespace Go.Proofs.Ytahkgkonpjimpaa
open Go.RowKit
set_option linter.unusedVariables false
section
variable {P : Program} {ops : Array Oper} {Q : Exit → Act → World → Prop}
theorem ready_pred {listed : Array Bool} {i p : Nat} (h : Region.waitsFor .any ops i p = true) (hi : i ∈ Region.ready .any ops listed) : listed.getD p false = true := by
  obtain ⟨o, ho, e, he, hb, rfl⟩ := Region.waitsFor_spec h
  obtain ⟨_, o', ho', hall⟩ := mem_ready.1 hi
  rw [ho] at ho'
  injection ho' with ho'
  subst ho'
  exact hall e he hb
def lowB (ops : Array Oper) : Bool := (List.range ops.size).all fun i => match ops[i]? with
  | some o => o.after.all fun e => !Region.binds .any e || decide (e.on < i)
  | none => true
theorem all_listed {listed : Array Bool} (hl : lowB ops = true) (hs : listed.size = ops.size) (hr : Region.ready .any ops listed = []) : ∀ j, j < ops.size → listed.getD j false = true := by
  intro j
  induction j using Nat.strongRecOn with
  | _ j ih =>
    intro hj
    cases hd : listed.getD j false with
    | true => rfl
    | false =>
      have h1 : listed.getD j true = false := getD_in (by omega) hd
      have h2 : j ∈ Region.ready .any ops listed := by
        refine mem_ready.2 ⟨h1, ops[j], by simp [hj], fun e he hb => ?_⟩
        have h3 := List.all_eq_true.1 hl j (List.mem_range.2 hj)
        simp only [hj, Array.getElem?_eq_getElem] at h3
        have h4 := Array.all_eq_true_iff_forall_mem.1 h3 e he
        have h5 : e.on < j := by simpa [hb] using h4
        exact ih _ h5 (by omega)
      rw [hr] at h2
      cases h2
def missing (l : Array Bool) : Nat := l.toList.count false
theorem count_set : ∀ (l : List Bool) (i : Nat), l[i]? = some false → (l.set i true).count false + 1 = l.count false
  | [], i, h => by simp at h
  | b :: l, 0, h => by
    have : b = false := by simpa using h
    subst this
    simp
  | b :: l, i + 1, h => by
    have := count_set l i (by simpa using h)
    simp only [List.set_cons_succ, List.count_cons]
    omega
theorem missing_set {l : Array Bool} {i : Nat} (h : l.getD i true = false) : missing (l.setIfInBounds i true) + 1 = missing l := by
  unfold missing
  rw [Array.toList_setIfInBounds]
  refine count_set _ _ ?_
  rcases Nat.lt_or_ge i l.size with h' | h'
  · simp [h'] at h ⊢; exact h
  · simp [Array.getElem?_eq_none h'] at h
/-- One operation, from whatever state in which it may come up. -/
def StepI (P : Program) (ops : Array Oper) (Q : Exit → Act → World → Prop) (I : Array Bool → Act → World → Prop) (i : Nat) : Prop :=
  ∀ listed a w, i ∈ Region.ready .any ops listed → i < listed.size → I listed a w → wpOp P ops Q i (I (listed.setIfInBounds i true)) a w
theorem stepI {I : Array Bool → Act → World → Prop} {i : Nat} {o : Oper} (ho : ops[i]? = some o)
    (h : ∀ listed a w, i ∈ Region.ready .any ops listed → i < listed.size → I listed a w → ∀ K : Act → World → Prop, Hid (∀ a w, I (listed.setIfInBounds i true) a w → K a w) →
      if Region.wanted o (yielded ops a.tmps) = true then Oper.wp P o a w K Q else K (a.put o.dst undef) w) : StepI P ops Q I i :=
  fun listed a w hr hs hI => wpOp_step ho fun K hK => h listed a w hr hs hI K (Lib.hid hK)
def AllI (P : Program) (ops : Array Oper) (Q : Exit → Act → World → Prop) (I : Array Bool → Act → World → Prop) (l : List Nat) : Prop := ∀ i ∈ l, StepI P ops Q I i
theorem AllI.nil {I : Array Bool → Act → World → Prop} : AllI P ops Q I [] := fun _ h => by cases h
theorem AllI.cons {I : Array Bool → Act → World → Prop} {i : Nat} {l : List Nat} (h : StepI P ops Q I i) (hs : AllI P ops Q I l) : AllI P ops Q I (i :: l) := fun j hj => by
  rcases List.mem_cons.1 hj with rfl | hj
  · exact h
  · exact hs j hj
theorem wpAny_inv {I : Array Bool → Act → World → Prop} (hlow : lowB ops = true) (hs : ∀ i, i < ops.size → StepI P ops Q I i)
    (hd : ∀ listed a w, (∀ j, j < ops.size → listed.getD j false = true) → I listed a w → Q .normal a w) :
    ∀ (fuel : Nat) (listed : Array Bool) (a : Act) (w : World), listed.size = ops.size → missing listed ≤ fuel → I listed a w → wpAny P .any ops Q fuel listed a w
  | 0, listed, a, w, hsz, hm, hI => by
    have hr : Region.ready .any ops listed = [] := by
      rcases h : Region.ready .any ops listed with _ | ⟨i, l⟩
      · rfl
      · have hi : i ∈ Region.ready .any ops listed := by rw [h]; simp
        have := missing_set (mem_ready.1 hi).1
        omega
    exact ⟨hr, hd listed a w (all_listed hlow hsz hr) hI⟩
  | fuel + 1, listed, a, w, hsz, hm, hI => by
    refine ⟨fun hr => hd listed a w (all_listed hlow hsz hr) hI, fun i hi => ?_⟩
    have h1 := mem_ready.1 hi
    obtain ⟨h1, o, ho, _⟩ := h1
    have hlt : i < ops.size := (Array.getElem?_eq_some_iff.1 ho).1
    have := missing_set h1
    exact wpOp_mono (fun a' w' h' => wpAny_inv hlow hs hd fuel _ a' w' (by simp [hsz]) (by omega) h') (hs i hlt listed a w hi (by omega) hI)
/-- The region: the invariant at the start, one step an operation, and what it says at the end. -/
theorem wp_region_inv {id : Nat} {a : Act} {w : World} (I : Array Bool → Act → World → Prop) (l : List Nat) (hm : P.follows .mixedOrders = true) (hlow : lowB ops = true) (hl : List.range ops.size = l)
    (h0 : I (Array.replicate ops.size false) a w.drew) (hs : AllI P ops Q I l)
    (hd : ∀ listed a w, (∀ j, j < ops.size → listed.getD j false = true) → I listed a w → Q .normal a w) : (Code.region id ops true).wp P Q a w :=
  wp_region_any hm (wpAny_inv hlow (fun i hi => hs i (by rw [← hl]; exact List.mem_range.2 hi)) hd ops.size _ a w.drew (by simp) (by
    unfold missing
    simp) h0)
end
/-- What has come up has left its value: F is the frame, v i what operation i leaves, C what is known of it. -/
def RI (F : (Nat → Value) → Act) (C : Nat → Value → World → Prop) (S : World → Prop) (listed : Array Bool) (a : Act) (w : World) : Prop :=
  ∃ v : Nat → Value, a = F v ∧ (∀ j, listed.getD j false = true → C j (v j) w) ∧ S w
def upd (v : Nat → Value) (i : Nat) (u : Value) : Nat → Value := fun j => if j = i then u else v j
theorem upd_same (v : Nat → Value) (i : Nat) (u : Value) : upd v i u i = u := if_pos rfl
theorem upd_other (v : Nat → Value) (i j : Nat) (u : Value) (h : j ≠ i) : upd v i u j = v j := if_neg h
theorem RI.start (F : (Nat → Value) → Act) (C : Nat → Value → World → Prop) (S : World → Prop) (n : Nat) (v : Nat → Value) (w : World) (hS : S w) : RI F C S (Array.replicate n false) (F v) w :=
  ⟨v, rfl, (fun j hj => by rw [getD_replicate_false] at hj; cases hj), hS⟩
theorem RI.step {F : (Nat → Value) → Act} {C : Nat → Value → World → Prop} {S : World → Prop} {listed : Array Bool} {v : Nat → Value} {w w' : World} {i : Nat} {a' : Act} (u : Value)
    (h : ∀ j, listed.getD j false = true → C j (v j) w) (ha : a' = F (upd v i u)) (hk : ∀ j x, j ≠ i → C j x w → C j x w') (hn : C i u w') (hS : S w') : RI F C S (listed.setIfInBounds i true) a' w' := by
  refine ⟨upd v i u, ha, fun j hj => ?_, hS⟩
  by_cases hji : j = i
  · subst hji; rw [upd_same]; exact hn
  · rw [upd_other _ _ _ _ hji]
    rw [getD_set_ne false (Ne.symm hji)] at hj
    exact hk j _ hji (h j hj)
/-- One step of a region by 'RI', for an operation without a guard: ps are operations for which it waits. -/
theorem stepRI {P : Program} {ops : Array Oper} {Q : Exit → Act → World → Prop} {F : (Nat → Value) → Act} {C : Nat → Value → World → Prop} {S : World → Prop} {i : Nat} {o : Oper} (ps : List Nat)
    (ho : ops[i]? = some o) (hg : o.guard = none) (hp : ps.all (Region.waitsFor .any ops i) = true)
    (h : ∀ v w, (∀ p, ps.contains p = true → C p (v p) w) → S w →
      ∀ K : Act → World → Prop, Hid (∀ a u w', a = F (upd v i u) → (∀ j x, j ≠ i → C j x w → C j x w') → C i u w' → S w' → K a w') → Oper.wp P o (F v) w K Q) : StepI P ops Q (RI F C S) i :=
  stepI ho fun li a w hr hs hI K hK => by
    obtain ⟨v, rfl, hv, hS⟩ := hI
    have hw : Region.wanted o (yielded ops (F v).tmps) = true := by unfold Region.wanted; rw [hg]
    rw [if_pos hw]
    refine h v w (fun p hp' => hv p (ready_pred (List.all_eq_true.1 hp p (by simpa using hp')) hr)) hS K (Lib.hid fun a u w' ha hm hc hS' => hK.out a w' ?_)
    refine ⟨upd v i u, ha, fun j hj => ?_, hS'⟩
    by_cases hji : j = i
    · subst hji; rw [upd_same]; exact hc
    · rw [upd_other _ _ _ _ hji]
      rw [getD_set_ne false (Ne.symm hji)] at hj
      exact hm j _ hji (hv j hj)
end Go.Proofs.Ytahkgkonpjimpaa
