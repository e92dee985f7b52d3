/-
  Regions that write memory or call what writes it, drawn or not, on a frame of which some slots are known.
-/
import Derived.Test.YtahkgkonpjimpaaDrawW
namespace Go.Proofs.Ytahkgkonpjimpaa
open Go.RowKit
set_option linter.unusedVariables false
/-- What operation i leaves: its value, and the state that stands for the set of operations that have come up. -/
def StepX (P : Program) (ops : Array Oper) (val : Nat → Value) (env0 : Env) (S : Array Bool → World → Prop) (i : Nat) : Prop :=
  ∃ (o : Oper) (ps : List Nat), ops[i]? = some o ∧ o.guard = none ∧ ps.all (Region.waitsFor .any ops i) = true ∧
    ∀ (r : Nat → Value) (listed : Array Bool) (w : World), i < listed.size → listed.getD i false = false → (∀ p ∈ ps, listed.getD p false = true) → S listed w →
      ∃ n w', (execOp (rho (envAt ops val env0 ps) r) o).run P w = .ok n w' ∧
        ((n = .value (val i) ∧ S (listed.setIfInBounds i true) w') ∨ (n = .skip ∧ o.dst = none ∧ S (listed.setIfInBounds i true) w') ∨
          ∃ f args, n = .enter f args ∧ Calls P f args w' fun e w'' => e = .returned (val i) ∧ S (listed.setIfInBounds i true) w'')
def AllX (P : Program) (ops : Array Oper) (val : Nat → Value) (env0 : Env) (S : Array Bool → World → Prop) : List Nat → Prop
  | [] => True
  | i :: l => StepX P ops val env0 S i ∧ AllX P ops val env0 S l
theorem AllX.mem {P : Program} {ops : Array Oper} {val : Nat → Value} {env0 : Env} {S : Array Bool → World → Prop} : ∀ {l : List Nat}, AllX P ops val env0 S l → ∀ i ∈ l, StepX P ops val env0 S i
  | j :: l, h, i, hi => by
    rcases List.mem_cons.1 hi with rfl | hi
    · exact h.1
    · exact AllX.mem (l := l) h.2 i hi
theorem KnW.put {ops : Array Oper} {N low : Nat} {val : Nat → Value} {env0 : Env} {S : Array Bool → World → Prop} {listed : Array Bool} {a : Act} {w w'' : World} {i : Nat} {o : Oper} (hd : dstsOk low N ops.toList [] = true) (he : env0.all (fun p => Nat.blt p.1 low) = true) (hI : KnW ops N val env0 S listed a w) (ho : ops[i]? = some o) (v : Value)
    (hv : o.dst = none ∨ v = val i) (hS : S (listed.setIfInBounds i true) w'') : KnW ops N val env0 S (listed.setIfInBounds i true) (a.put o.dst v) w'' := by
  obtain ⟨dk1, dk2⟩ := dstsOk_spec ops.toList [] hd
  obtain ⟨k1, k2, k3, k4, k5⟩ := hI
  have hol : ops.toList[i]? = some o := by simpa using ho
  refine ⟨by cases o.dst <;> simp [Act.put, k1], by cases o.dst <;> simp [Act.put, k2], fun j p d hj hd' hlj => ?_, fun p hp => ?_, hS⟩
  · by_cases hji : j = i
    · subst hji
      rw [ho] at hj
      injection hj with hj
      subst hj
      rw [hd'] at hv ⊢
      have hlt := (dk1 j o d hol hd').2.1
      rcases hv with hv | hv
      · cases hv
      · simp [Act.put, Array.getD, k1, hlt, hv]
    · have hl' : listed.getD j false = true := by rw [getD_set_ne false (Ne.symm hji)] at hlj; exact hlj
      have hold := k3 j p d hj hd' hl'
      cases hdo : o.dst with
      | none => exact hold
      | some d' =>
        have hne : d' ≠ d := fun e => by
          subst e
          exact hji (dk2 j i p o d' (by simpa using hj) hol hd' hdo)
        simp only [Act.put, Array.getD_eq_getD_getElem?] at hold ⊢
        rw [Array.getElem?_setIfInBounds_ne hne]
        exact hold
  · have hold := k4 p hp
    cases hdo : o.dst with
    | none => exact hold
    | some d' =>
      have hlo := (dk1 i o d' hol hdo).1
      have hp' : p.1 < low := by simpa [Nat.blt_eq] using List.all_eq_true.1 he p hp
      have hne : d' ≠ p.1 := Nat.ne_of_gt (Nat.lt_of_lt_of_le hp' hlo)
      simp only [Act.put, Array.getD_eq_getD_getElem?] at hold ⊢
      rw [Array.getElem?_setIfInBounds_ne hne]
      exact hold
/-- One operation's wp out of its step. -/
theorem stepX_wp {P : Program} {ops : Array Oper} {N low : Nat} {val : Nat → Value} {env0 : Env} {S : Array Bool → World → Prop} {Q : Exit → Act → World → Prop} {listed : Array Bool} {a : Act} {w : World} {i : Nat} {o : Oper} {ps : List Nat} {K : Act → World → Prop} (hd : dstsOk low N ops.toList [] = true) (he : env0.all (fun p => Nat.blt p.1 low) = true)
    (ho : ops[i]? = some o) (hsz : i < listed.size) (hun : listed.getD i false = false) (hpl : ∀ p ∈ ps, listed.getD p false = true) (hI : KnW ops N val env0 S listed a w)
    (hstep : ∀ (r : Nat → Value) (listed : Array Bool) (w : World), i < listed.size → listed.getD i false = false → (∀ p ∈ ps, listed.getD p false = true) → S listed w →
      ∃ n w', (execOp (rho (envAt ops val env0 ps) r) o).run P w = .ok n w' ∧
        ((n = .value (val i) ∧ S (listed.setIfInBounds i true) w') ∨ (n = .skip ∧ o.dst = none ∧ S (listed.setIfInBounds i true) w') ∨
          ∃ f args, n = .enter f args ∧ Calls P f args w' fun e w'' => e = .returned (val i) ∧ S (listed.setIfInBounds i true) w''))
    (hK : ∀ a' w', KnW ops N val env0 S (listed.setIfInBounds i true) a' w' → K a' w') : o.wp P a w K Q := by
  obtain ⟨k1, k2, k3, k4, k5⟩ := hI
  obtain ⟨n, w', hrun, hn⟩ := hstep (fun j => a.tmps.getD j undef) listed w hsz hun hpl k5
  have hag : Agree N (envAt ops val env0 ps) (fun j => a.tmps.getD j undef) a := ⟨k1, k2, fun j => (look_of (fun j => a.tmps.getD j undef) _ (envAt_ok k3 k4 ps hpl) j).symm⟩
  have hI : KnW ops N val env0 S listed a w := ⟨k1, k2, k3, k4, k5⟩
  unfold Oper.wp
  rw [hag.rho, hrun]
  rcases hn with ⟨rfl, hS⟩ | ⟨rfl, hnone, hS⟩ | ⟨f, args, rfl, hc⟩
  · exact hK _ _ (KnW.put hd he hI ho _ (.inr rfl) hS)
  · exact hK _ _ (KnW.put hd he hI ho _ (.inl hnone) hS)
  · refine Calls.mono hc ?_
    rintro e w'' ⟨rfl, hS⟩
    exact hK _ _ (KnW.put hd he hI ho _ (.inr rfl) hS)
theorem reg_any {P : Program} {id : Nat} {ops : Array Oper} {Q : Exit → Act → World → Prop} {a : Act} {w : World} {b : Bool} (low N : Nat) (env0 : Env) (val : Nat → Value) (S : Array Bool → World → Prop) (l : List Nat)
    (hm : P.follows .mixedOrders = true) (hlow : lowB ops = true) (hl : List.range ops.size = l) (hd : dstsOk low N ops.toList [] = true) (he : env0.all (fun p => Nat.blt p.1 low) = true) (hfr : Fr N env0 a)
    (h0 : S (Array.replicate ops.size false) (if b then w.drew else w)) (hs : AllX P ops val env0 S l)
    (h : ∀ a' w' listed, KnW ops N val env0 S listed a' w' → (∀ j, j < ops.size → listed.getD j false = true) → Q .normal a' w') : (Code.region id ops b).wp P Q a w := by
  have start : KnW ops N val env0 S (Array.replicate ops.size false) a (if b then w.drew else w) := ⟨hfr.1, hfr.2.1, (fun j o d _ _ hj => by rw [getD_replicate_false] at hj; cases hj), hfr.2.2, h0⟩
  cases b with
  | true =>
    refine wp_region_inv (KnW ops N val env0 S) l hm hlow hl start (fun i hi => ?_) ?_
    · obtain ⟨o, ps, ho, hg, hps, hstep⟩ := hs.mem i hi
      refine stepI ho fun listed a' w' hr hsz hI K hK => ?_
      have hw : Region.wanted o (yielded ops a'.tmps) = true := by unfold Region.wanted; rw [hg]
      rw [if_pos hw]
      exact stepX_wp hd he ho hsz (getD_both (mem_ready.1 hr).1) (fun p hp => ready_pred (List.all_eq_true.1 hps p hp) hr) hI hstep hK.out
    · intro listed a' w' hall hI
      exact h a' w' listed hI hall
  | false =>
    refine wp_region_list ?_
    -- the operations in the order of the text
    have key : ∀ (k : Nat) (rest : List Oper) (listed : Array Bool) (a' : Act) (w' : World), ops.toList.drop k = rest → listed.size = ops.size → (∀ j, listed.getD j false = decide (j < k)) → k ≤ ops.size → KnW ops N val env0 S listed a' w' → wpList P ops Q rest a' w' := by
      intro k rest
      induction rest generalizing k with
      | nil =>
        intro listed a' w' hr hsz hli hk hI
        have : ops.size ≤ k := by
          have := List.drop_eq_nil_iff.1 hr
          simpa using this
        refine h a' w' listed hI fun j hj => ?_
        rw [hli j]
        exact decide_eq_true (by omega)
      | cons o rest ih =>
        intro listed a' w' hr hsz hli hk hI
        have hlt : k < ops.toList.length := by
          rcases Nat.lt_or_ge k ops.toList.length with hlt | hge
          · exact hlt
          · rw [List.drop_eq_nil_of_le hge] at hr; cases hr
        rw [List.drop_eq_getElem_cons hlt] at hr
        injection hr with hr1 hr2
        have hlt' : k < ops.size := by simpa using hlt
        have ho : ops[k]? = some o := by rw [← hr1]; simp
        obtain ⟨o', ps, ho', hg, hps, hstep⟩ := hs.mem k (by rw [← hl]; exact List.mem_range.2 hlt')
        rw [ho] at ho'
        injection ho' with ho'
        subst ho'
        have hpl : ∀ p ∈ ps, listed.getD p false = true := fun p hp => by
          rw [hli p]
          obtain ⟨o2, ho2, e, he2, hb, hon⟩ := Region.waitsFor_spec (List.all_eq_true.1 hps p hp)
          rw [ho] at ho2
          injection ho2 with ho2
          subst ho2
          have h3 := List.all_eq_true.1 hlow k (List.mem_range.2 hlt')
          simp only [ho] at h3
          have h4 := Array.all_eq_true_iff_forall_mem.1 h3 e he2
          have h5 : e.on < k := by simpa [hb] using h4
          exact decide_eq_true (by omega)
        refine wpList_plain hg fun K hK => ?_
        refine stepX_wp hd he ho (by omega) (by rw [hli k]; simp) hpl hI hstep fun a2 w2 hI2 => hK _ _ ?_
        refine ih (k + 1) (listed.setIfInBounds k true) a2 w2 hr2 (by simp [hsz]) (fun j => ?_) hlt' hI2
        by_cases hjk : j = k
        · subst hjk
          rw [show (listed.setIfInBounds j true).getD j false = true by simp [show j < listed.size by omega]]
          exact (decide_eq_true (by omega)).symm
        · rw [getD_set_ne false (Ne.symm hjk), hli j]
          by_cases hjk2 : j < k
          · rw [decide_eq_true hjk2, decide_eq_true (by omega)]
          · rw [decide_eq_false hjk2, decide_eq_false (by omega)]
    exact key 0 _ _ a w rfl (by simp) (fun j => by rw [getD_replicate_false]; simp) (Nat.zero_le _) start
/-- What is known behind it: the slots below, and what the operations have left. -/
theorem KnW.fr {ops : Array Oper} {N : Nat} {val : Nat → Value} {env0 : Env} {S : Array Bool → World → Prop} {listed : Array Bool} {a : Act} {w : World} (h : KnW ops N val env0 S listed a w) (hall : ∀ j, j < ops.size → listed.getD j false = true) (ps : List Nat) (hps : ps.all (fun p => Nat.blt p ops.size) = true) : Fr N (envAt ops val env0 ps) a :=
  ⟨h.1, h.2.1, envAt_ok h.2.2.1 h.2.2.2.1 ps fun p hp => hall p (by simpa [Nat.blt_eq] using List.all_eq_true.1 hps p hp)⟩
theorem KnW.st {ops : Array Oper} {N : Nat} {val : Nat → Value} {env0 : Env} {S : Array Bool → World → Prop} {listed : Array Bool} {a : Act} {w : World} (h : KnW ops N val env0 S listed a w) : S listed w := h.2.2.2.2
/-- copy into a row that is known, out of bytes that lie anywhere. -/
theorem copy_run {P : Program} {ρ : Operand → Value} {o : Oper} {d s : Operand} {dT sT e : TypeId} (ho : o.op = .call { callee := .builtin .copy, args := #[d, s], argTypes := #[dT, sT] }) (hu : P.underlying dT = some (.slice e)) (hsz : (P.info? e).map (·.size) = some 1)
    {g off dLen dCap n c : Nat} {A : Option Addr} (hd : ρ d = .slice (some ⟨g, off, none⟩) dLen dCap) (hs : ρ s = .slice A n c) {w : World} {p : List UInt8} (hb : Byt w A p) (hn : p.length = n) {t : TypeId} {cur : List Value} (hg : At w g t cur) (k : Nat) (hk : k = min n dLen) (hfit : off + k ≤ cur.length) :
    ∃ w', (execOp ρ o).run P w = .ok (.value (goInt k)) w' ∧ PutB w w' g t (splice cur off ((p.take k).map B8)) := by
  have hlen : ((p.take k).map B8).length = k := by simp; omega
  rcases Nat.eq_zero_or_pos k with h0 | h0
  · refine ⟨w, ?_, ?_⟩
    · have hrun := run_copy_none (P := P) w dT sT o.type e (some ⟨g, off, none⟩) A dLen dCap n c hu hsz (by rw [h0] at hk; exact hk.symm)
      simp [execOp, ho, resolve, invoke, builtin, hd, hs, hrun, Result.andThen, h0]
    · rw [h0]
      simp [splice]
      exact PutB.refl hg
  · obtain ⟨b, o', rfl, hlt, hc⟩ := hb (by omega)
    have hrun := run_copy_row (P := P) w dT sT o.type e g off dLen dCap ⟨b, o', none⟩ n c cur.toArray t ((p.take k).map B8) hu hsz hg (by rw [hlen]; exact hk) (fun j v hv => by
      rw [add_plain']
      obtain ⟨h1, h2⟩ := List.getElem?_eq_some_iff.1 hv
      have h1' : j < k := by omega
      rw [hc j (by omega), ← h2]; simp) (by rw [hlen]; simpa using hfit) (B8_one _)
    refine ⟨w.setRow g (splice cur off ((p.take k).map B8)).toArray, ?_, PutB.setRow hg _⟩
    rw [hlen] at hrun
    simp only [execOp, ho, resolve, invoke, builtin, Sem.run_bind, Sem.run_pure, Result.andThen_ok, List.map_toArray, List.map_cons, List.map_nil, hd, hs, hrun]
    unfold splice
    rw [hlen]
    simp only [List.append_assoc]
theorem copy_step {P : Program} {ρ : Operand → Value} {o : Oper} {d s : Operand} {dT sT e : TypeId} (ho : o.op = .call { callee := .builtin .copy, args := #[d, s], argTypes := #[dT, sT] }) (hu : P.underlying dT = some (.slice e)) (hsz : (P.info? e).map (·.size) = some 1)
    {g off dLen dCap n c : Nat} {A : Option Addr} (hd : ρ d = .slice (some ⟨g, off, none⟩) dLen dCap) (hs : ρ s = .slice A n c) {w : World} {p : List UInt8} (hb : Byt w A p) (hn : p.length = n) {t : TypeId} {cur : List Value} (hg : At w g t cur) (k : Nat) (hk : k = min n dLen) (hfit : off + k ≤ cur.length)
    {V : Value} (hV : V = goInt k) {R : World → Prop} (h : ∀ w', PutB w w' g t (splice cur off ((p.take k).map B8)) → R w') :
    ∃ n w', (execOp ρ o).run P w = .ok n w' ∧ ((n = .value V ∧ R w') ∨ (n = .skip ∧ o.dst = none ∧ R w') ∨ ∃ f args, n = .enter f args ∧ Calls P f args w' fun e w'' => e = .returned V ∧ R w'') := by
  obtain ⟨w', h1, h2⟩ := copy_run ho hu hsz hd hs hb hn hg k hk hfit
  exact ⟨_, w', h1, .inl ⟨by rw [hV], h w' h2⟩⟩
end Go.Proofs.Ytahkgkonpjimpaa
