/-
  A region whose order is open, walked by an invariant; what an operation has left may be used up by a later one.
-/
import Derived.Test.YtppcpidlnpencaaReg
namespace Go.Proofs.Ytppcpidlnpencaa
open Go.RowKit
set_option linter.unusedVariables false
/-- As RI; gone j = some k: what is known of operation j's value is known till operation k has come up. -/
def RG (ops : Array Oper) (F : (Nat → Value) → Act) (C : Nat → Value → World → Prop) (S : World → Prop) (gone : Nat → Option Nat) (listed : Array Bool) (a : Act) (w : World) : Prop :=
  ∃ v : Nat → Value, a = F v ∧ (∀ j, listed.getD j false = true → (∀ k, gone j = some k → listed.getD k false = false) → C j (v j) w) ∧ S w ∧ ∀ j p, listed.getD j false = true → Region.waitsFor .any ops j p = true → listed.getD p false = true
theorem RG.start (ops : Array Oper) (F : (Nat → Value) → Act) (C : Nat → Value → World → Prop) (S : World → Prop) (gone : Nat → Option Nat) (n : Nat) (v : Nat → Value) (w : World) (hS : S w) : RG ops F C S gone (Array.replicate n false) (F v) w :=
  ⟨v, rfl, (fun j hj => by rw [getD_replicate_false] at hj; cases hj), hS, (fun j p hj => by rw [getD_replicate_false] at hj; cases hj)⟩
theorem stepRG {P : Program} {ops : Array Oper} {Q : Exit → Act → World → Prop} {F : (Nat → Value) → Act} {C : Nat → Value → World → Prop} {S : World → Prop} {gone : Nat → Option Nat} {i : Nat} {o : Oper} (ps : List Nat)
    (ho : ops[i]? = some o) (hg : o.guard = none) (hp : ps.all (fun p => Region.waitsFor .any ops i p && (gone p == none || gone p == some i)) = true)
    (h : ∀ v w, (∀ p, ps.contains p = true → C p (v p) w) → S w →
      ∀ K : Act → World → Prop, Hid (∀ a u w', a = F (upd v i u) → (∀ j x, j ≠ i → gone j ≠ some i → Region.waitsFor .any ops j i = false → C j x w → C j x w') → C i u w' → S w' → K a w') → Oper.wp P o (F v) w K Q) : StepI P ops Q (RG ops F C S gone) i :=
  stepI ho fun li a w hr hs hI K hK => by
    obtain ⟨v, rfl, hv, hS, hcl⟩ := hI
    have hw : Region.wanted o (yielded ops (F v).tmps) = true := by unfold Region.wanted; rw [hg]
    have hun : li.getD i false = false := by
      have := (mem_ready.1 hr).1
      exact getD_both this
    rw [if_pos hw]
    refine h v w (fun p hp' => ?_) hS K (Lib.hid fun a u w' ha hm hc hS' => hK.out a w' ?_)
    · have h1 := List.all_eq_true.1 hp p (by simpa using hp')
      simp only [Bool.and_eq_true, Bool.or_eq_true, beq_iff_eq] at h1
      refine hv p (ready_pred h1.1 hr) fun k hk => ?_
      rcases h1.2 with h2 | h2
      · rw [h2] at hk; cases hk
      · rw [h2] at hk
        injection hk with hk
        subst hk
        exact hun
    · refine ⟨upd v i u, ha, fun j hj hgn => ?_, hS', fun j p hj hwt => ?_⟩
      · by_cases hji : j = i
        · subst hji; rw [upd_same]; exact hc
        · rw [upd_other _ _ _ _ hji]
          rw [getD_set_ne false (Ne.symm hji)] at hj
          refine hm j _ hji (fun he => ?_) (Bool.eq_false_iff.2 fun hwt => ?_) (hv j hj fun k hk => ?_)
          · have := hgn i he
            simp [hs] at this
          · have := hcl j i hj hwt
            rw [hun] at this
            cases this
          · have := hgn k hk
            by_cases hki : k = i
            · subst hki; exact hun
            · rw [getD_set_ne false (Ne.symm hki)] at this
              exact this
      · by_cases hji : j = i
        · subst hji; exact getD_set_true (ready_pred hwt hr)
        · rw [getD_set_ne false (Ne.symm hji)] at hj
          exact getD_set_true (hcl j p hj hwt)
theorem wp_region_rg {P : Program} {ops : Array Oper} {Q : Exit → Act → World → Prop} {id : Nat} {a : Act} {w : World} (F : (Nat → Value) → Act) (C : Nat → Value → World → Prop) (S : World → Prop) (gone : Nat → Option Nat) (l : List Nat)
    (hm : P.follows .mixedOrders = true) (hlow : lowB ops = true) (hl : List.range ops.size = l)
    (h0 : RG ops F C S gone (Array.replicate ops.size false) a w.drew) (hs : AllI P ops Q (RG ops F C S gone) l)
    (hd : ∀ v w, (∀ j, j < ops.size → gone j = none → C j (v j) w) → S w → Q .normal (F v) w) : (Code.region id ops true).wp P Q a w :=
  wp_region_inv (RG ops F C S gone) l hm hlow hl h0 hs fun li a w hall hI => by
    obtain ⟨v, rfl, hv, hS, -⟩ := hI
    exact hd v w (fun j hj hg => hv j (hall j hj) fun k hk => by rw [hg] at hk; cases hk) hS
/-- append of bytes onto bytes that the call owns. -/
theorem wp_appB {P : Program} {w : World} {o : Oper} {a : Act} {K : Act → World → Prop} {Q : Exit → Act → World → Prop} (s x : Operand) (t : TypeId)
    (ho : o.op = .call { callee := .builtin .append, args := #[s, x], argTypes := #[t, t] }) (base : Nat) (e : TypeId) (ht : P.underlying t = some (.slice e))
    (hi : (P.info? e).map (fun i => (i.zero, i.size, i.bytes)) = some (some (.int .u8 0), 1, 1)) (v : Value) (n : Nat) (xs : List UInt8) (hs : a.eval s = v) (hown : w.ownsRow base e 1 v n (xs.map B8))
    (ad : Addr) (m c : Nat) (bs : List UInt8) (hx : a.eval x = .slice (some ad) m c) (hb : Byt w (some ad) bs) (hl : bs.length = m) (hmax : n + m ≤ 140737488355328) (hbase : base ≤ w.heap.size)
    (h : ∀ v' w', w'.ownsRow base e 1 v' (n + m) ((xs ++ bs).map B8) → w.grownBy w' v.ownBlock → K (a.put o.dst v') w') : Oper.wp P o a w K Q := by
  obtain ⟨i, hi1, hz0, hz1, hz2⟩ := info_parts hi
  have hcells : ∀ j u, (bs.map B8)[j]? = some u → w.cell? (ad.add j) = some u := by
    intro j u hu
    have hp : 0 < bs.length := by have := (List.getElem?_eq_some_iff.1 hu).1; simp at this; omega
    obtain ⟨ad', e', hc'⟩ := hb.src hp
    injection e' with e'
    subst e'
    exact hc' j u hu
  refine wp_append_own w s x t ho base e i _ 1 1 ht hi1 hz0 hz1 hz2 rfl (by omega) v n (xs.map B8) hs hown ad m c (bs.map B8) hx (by simp [hl]) hcells (B8_one bs) (by simp only [maxLen]; omega) (by omega) hbase ?_
  intro v' w' h1 h2 _
  exact h v' w' (by simpa using h1) h2
end Go.Proofs.Ytppcpidlnpencaa
