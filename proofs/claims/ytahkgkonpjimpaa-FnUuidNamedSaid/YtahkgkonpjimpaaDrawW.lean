/-
  A region whose order is open and of which some operations write memory, on a frame of which some slots are known.
-/
import Derived.Test.YtahkgkonpjimpaaQuiet
import Derived.Test.YtahkgkonpjimpaaReg
namespace Go.Proofs.Ytahkgkonpjimpaa
open Go.RowKit
set_option linter.unusedVariables false
def dstsOk (low N : Nat) : List Oper → List Nat → Bool
  | [], _ => true
  | o :: l, seen => match o.dst with
    | some d => Nat.ble low d && Nat.blt d N && !(seen.any (Nat.beq d)) && dstsOk low N l (d :: seen)
    | none => dstsOk low N l seen
theorem dstsOk_spec {low N : Nat} : ∀ (l : List Oper) (seen : List Nat), dstsOk low N l seen = true → (∀ (i : Nat) (o : Oper) (d : Nat), l[i]? = some o → o.dst = some d → low ≤ d ∧ d < N ∧ d ∉ seen) ∧
    ∀ (i j : Nat) (o p : Oper) (d : Nat), l[i]? = some o → l[j]? = some p → o.dst = some d → p.dst = some d → i = j
  | [], seen, h => ⟨fun i o d hi => by simp at hi, fun i j o p d hi => by simp at hi⟩
  | o :: l, seen, h => by
    unfold dstsOk at h
    cases hd : o.dst with
    | none =>
      rw [hd] at h
      obtain ⟨k1, k2⟩ := dstsOk_spec l seen h
      refine ⟨fun i o' d hi he => ?_, fun i j o' p d hi hj he hf => ?_⟩
      · cases i with
        | zero => simp at hi; subst hi; rw [hd] at he; cases he
        | succ i => exact k1 i o' d (by simpa using hi) he
      · cases i with
        | zero => simp at hi; subst hi; rw [hd] at he; cases he
        | succ i =>
          cases j with
          | zero => simp at hj; subst hj; rw [hd] at hf; cases hf
          | succ j => rw [k2 i j o' p d (by simpa using hi) (by simpa using hj) he hf]
    | some d0 =>
      rw [hd] at h
      simp only [Bool.and_eq_true] at h
      obtain ⟨⟨⟨h1, h2⟩, h3⟩, h4⟩ := h
      obtain ⟨k1, k2⟩ := dstsOk_spec l (d0 :: seen) h4
      have e1 : low ≤ d0 := Nat.le_of_ble_eq_true h1
      have e2 : d0 < N := by simpa [Nat.blt_eq] using h2
      have e3 : d0 ∉ seen := fun hm => by
        have : seen.any (Nat.beq d0) = true := List.any_eq_true.2 ⟨d0, hm, by simp⟩
        rw [this] at h3
        cases h3
      refine ⟨fun i o' d hi he => ?_, fun i j o' p d hi hj he hf => ?_⟩
      · cases i with
        | zero => simp at hi; subst hi; rw [hd] at he; injection he with he; subst he; exact ⟨e1, e2, e3⟩
        | succ i =>
          obtain ⟨a1, a2, a3⟩ := k1 i o' d (by simpa using hi) he
          exact ⟨a1, a2, fun hm => a3 (by simp [hm])⟩
      · cases i with
        | zero =>
          cases j with
          | zero => rfl
          | succ j =>
            simp at hi; subst hi; rw [hd] at he; injection he with he; subst he
            exact absurd (by simp) (k1 j p d0 (by simpa using hj) hf).2.2
        | succ i =>
          cases j with
          | zero =>
            simp at hj; subst hj; rw [hd] at hf; injection hf with hf; subst hf
            exact absurd (by simp) (k1 i o' d0 (by simpa using hi) he).2.2
          | succ j => rw [k2 i j o' p d (by simpa using hi) (by simpa using hj) he hf]
/-- What is known when operation i comes up: the slots below, and what the operations for which it waits have left. -/
def envAt (ops : Array Oper) (val : Nat → Value) (env0 : Env) : List Nat → Env
  | [] => env0
  | p :: ps => match ops[p]? with
    | some o => match o.dst with
      | some d => (d, val p) :: envAt ops val env0 ps
      | none => envAt ops val env0 ps
    | none => envAt ops val env0 ps
def StepW (P : Program) (ops : Array Oper) (val : Nat → Value) (env0 : Env) (S : Array Bool → World → Prop) (i : Nat) : Prop :=
  ∃ (o : Oper) (ps : List Nat), ops[i]? = some o ∧ o.guard = none ∧ ps.all (Region.waitsFor .any ops i) = true ∧
    ∀ (r : Nat → Value) (listed : Array Bool) (w : World), i < listed.size → listed.getD i false = false → S listed w →
      ∃ n w', (execOp (rho (envAt ops val env0 ps) r) o).run P w = .ok n w' ∧ (n = .value (val i) ∨ (n = .skip ∧ o.dst = none)) ∧ S (listed.setIfInBounds i true) w'
def AllW (P : Program) (ops : Array Oper) (val : Nat → Value) (env0 : Env) (S : Array Bool → World → Prop) : List Nat → Prop
  | [] => True
  | i :: l => StepW P ops val env0 S i ∧ AllW P ops val env0 S l
theorem AllW.mem {P : Program} {ops : Array Oper} {val : Nat → Value} {env0 : Env} {S : Array Bool → World → Prop} : ∀ {l : List Nat}, AllW P ops val env0 S l → ∀ i ∈ l, StepW P ops val env0 S i
  | j :: l, h, i, hi => by
    rcases List.mem_cons.1 hi with rfl | hi
    · exact h.1
    · exact AllW.mem (l := l) h.2 i hi
def KnW (ops : Array Oper) (N : Nat) (val : Nat → Value) (env0 : Env) (S : Array Bool → World → Prop) (listed : Array Bool) (a : Act) (w : World) : Prop :=
  a.tmps.size = N ∧ a.defers = [] ∧ (∀ (j : Nat) (o : Oper) (d : Nat), ops[j]? = some o → o.dst = some d → listed.getD j false = true → a.tmps.getD d undef = val j) ∧ (∀ p ∈ env0, a.tmps.getD p.1 undef = p.2) ∧ S listed w
theorem envAt_ok {ops : Array Oper} {val : Nat → Value} {env0 : Env} {listed : Array Bool} {a : Act} (h1 : ∀ (j : Nat) (o : Oper) (d : Nat), ops[j]? = some o → o.dst = some d → listed.getD j false = true → a.tmps.getD d undef = val j) (h2 : ∀ p ∈ env0, a.tmps.getD p.1 undef = p.2) :
    ∀ ps : List Nat, (∀ p ∈ ps, listed.getD p false = true) → ∀ p ∈ envAt ops val env0 ps, a.tmps.getD p.1 undef = p.2
  | [], _, p, hp => h2 p hp
  | q :: ps, hl, p, hp => by
    have ih := envAt_ok h1 h2 ps (fun x hx => hl x (by simp [hx]))
    unfold envAt at hp
    split at hp
    · rename_i o ho
      split at hp
      · rename_i d hd
        rcases List.mem_cons.1 hp with rfl | hp
        · exact h1 q o d ho hd (hl q (by simp))
        · exact ih p hp
      · exact ih p hp
    · exact ih p hp
theorem reg_write {P : Program} {id : Nat} {ops : Array Oper} {Q : Exit → Act → World → Prop} {a : Act} {w : World} (low N : Nat) (env0 : Env) (val : Nat → Value) (S : Array Bool → World → Prop) (l : List Nat)
    (hm : P.follows .mixedOrders = true) (hlow : lowB ops = true) (hl : List.range ops.size = l) (hd : dstsOk low N ops.toList [] = true) (he : env0.all (fun p => Nat.blt p.1 low) = true) (hfr : Fr N env0 a)
    (h0 : S (Array.replicate ops.size false) w.drew) (hs : AllW P ops val env0 S l)
    (h : ∀ a' w', Fr N env0 a' → (∀ listed : Array Bool, (∀ j, j < ops.size → listed.getD j false = true) → S listed w' → Q .normal a' w')) : (Code.region id ops true).wp P Q a w := by
  obtain ⟨dk1, dk2⟩ := dstsOk_spec ops.toList [] hd
  refine wp_region_inv (KnW ops N val env0 S) l hm hlow hl ⟨hfr.1, hfr.2.1, (fun j o d _ _ hj => by rw [getD_replicate_false] at hj; cases hj), hfr.2.2, h0⟩ (fun i hi => ?_) ?_
  · obtain ⟨o, ps, ho, hg, hps, hstep⟩ := hs.mem i hi
    refine stepI ho fun listed a' w' hr hsz hI K hK => ?_
    obtain ⟨k1, k2, k3, k4, k5⟩ := hI
    have hw : Region.wanted o (yielded ops a'.tmps) = true := by unfold Region.wanted; rw [hg]
    rw [if_pos hw]
    have hun : listed.getD i false = false := getD_both (mem_ready.1 hr).1
    have hpl : ∀ p ∈ ps, listed.getD p false = true := fun p hp => ready_pred (List.all_eq_true.1 hps p hp) hr
    obtain ⟨n, w'', hrun, hn, hS⟩ := hstep (fun j => a'.tmps.getD j undef) listed w' hsz hun k5
    have hag : Agree N (envAt ops val env0 ps) (fun j => a'.tmps.getD j undef) a' := ⟨k1, k2, fun j => (look_of (fun j => a'.tmps.getD j undef) _ (envAt_ok k3 k4 ps hpl) j).symm⟩
    have hol : ops.toList[i]? = some o := by simpa using ho
    have put : ∀ v, (o.dst = none ∨ v = val i) → KnW ops N val env0 S (listed.setIfInBounds i true) (a'.put o.dst v) w'' := fun v hv => by
      refine ⟨by cases o.dst <;> simp [Act.put, k1], by cases o.dst <;> simp [Act.put, k2], fun j p d hj hd' hlj => ?_, fun p hp => ?_, hS⟩
      · by_cases hji : j = i
        · subst hji
          rw [ho] at hj
          injection hj with hj
          subst hj
          rw [hd'] at hv ⊢
          have hlt := (dk1 j o d hol hd').2.1
          rcases hv with hv | hv
          · cases hv
          · simp [Act.put, Array.getD, k1, hlt, hv]
        · have hl' : listed.getD j false = true := by rw [getD_set_ne false (Ne.symm hji)] at hlj; exact hlj
          have hold := k3 j p d hj hd' hl'
          cases hdo : o.dst with
          | none => exact hold
          | some d' =>
            have hne : d' ≠ d := fun e => by
              subst e
              exact hji (dk2 j i p o d' (by simpa using hj) hol hd' hdo)
            simp only [Act.put, Array.getD_eq_getD_getElem?] at hold ⊢
            rw [Array.getElem?_setIfInBounds_ne hne]
            exact hold
      · have hold := k4 p hp
        cases hdo : o.dst with
        | none => exact hold
        | some d' =>
          have hlo := (dk1 i o d' hol hdo).1
          have hp' : p.1 < low := by simpa [Nat.blt_eq] using List.all_eq_true.1 he p hp
          have hne : d' ≠ p.1 := Nat.ne_of_gt (Nat.lt_of_lt_of_le hp' hlo)
          simp only [Act.put, Array.getD_eq_getD_getElem?] at hold ⊢
          rw [Array.getElem?_setIfInBounds_ne hne]
          exact hold
    unfold Oper.wp
    rw [hag.rho, hrun]
    rcases hn with rfl | ⟨rfl, hnone⟩
    · exact hK.out _ _ (put _ (.inr rfl))
    · exact hK.out _ _ (put _ (.inl hnone))
  · intro listed a' w' hall hI
    obtain ⟨k1, k2, k3, k4, k5⟩ := hI
    exact h a' w' ⟨k1, k2, k4⟩ listed hall k5
theorem store_run {P : Program} {ρ : Operand → Value} {o : Oper} {ty : TypeId} {x y : Operand} (ho : o.op = .store ty x y) {b k : Nat} {kd : IntKind} {n : Int} (hx : ρ x = .pointer (some ⟨b, k, none⟩)) (hy : ρ y = .int kd n) {w : World} (ht : w.there b k 1) (hi : (P.info? ty).map (·.size) = some 1) :
    (execOp ρ o).run P w = .ok .skip (w.setCell ⟨b, k, none⟩ (.int kd n)) := by
  unfold execOp
  simp only [ho, hx, hy, Instr.storeAt, Instr.sureAddr, Sem.run_bind, Sem.run_pure, Result.andThen_ok, run_storeOne w b k ty kd n ht hi]
theorem PutB.refl {w : World} {g : Nat} {t : TypeId} {cs : List Value} (h : At w g t cs) : PutB w w g t cs := ⟨⟨rfl, rfl, rfl, Nat.le_refl _, fun _ _ _ => rfl⟩, rfl, h⟩
theorem Fr.nth {N : Nat} {env : Env} {a : Act} (h : Fr N env a) (i : Nat) {j : Nat} {v : Value} (hm : env[i]? = some (j, v)) : a.eval (.tmp j) = v := h.2.2 (j, v) (List.mem_of_getElem? hm)
theorem Fr.sub {N : Nat} {env env' : Env} {a : Act} (h : Fr N env a) (idx : List Nat) (hm : idx.map (fun i => env[i]?) = env'.map some) : Fr N env' a := ⟨h.1, h.2.1, fun p hp => by
  have h1 : some p ∈ env'.map some := List.mem_map.2 ⟨p, hp, rfl⟩
  rw [← hm] at h1
  obtain ⟨i, -, hi⟩ := List.mem_map.1 h1
  exact h.2.2 p (List.mem_of_getElem? hi)⟩
theorem Fr.put {N : Nat} {env : Env} {a : Act} (h : Fr N env a) (d : Nat) (v : Value) (hd : d < N) (hn : env.all (fun p => !Nat.beq p.1 d) = true) : Fr N ((d, v) :: env) (a.put (some d) v) := by
  refine ⟨by simp [Act.put, h.1], by simp [Act.put, h.2.1], fun p hp => ?_⟩
  rcases List.mem_cons.1 hp with rfl | hp
  · simp [Act.put, Array.getD, h.1, hd]
  · have hne : d ≠ p.1 := fun e => by
      have := List.all_eq_true.1 hn p hp
      rw [e] at this
      simp at this
    have := h.2.2 p hp
    simp only [Act.put, Array.getD_eq_getD_getElem?] at this ⊢
    rw [Array.getElem?_setIfInBounds_ne hne]
    exact this
/-- A region of one operation, a new variable. -/
theorem reg_var {P : Program} {id : Nat} {o : Oper} {Q : Exit → Act → World → Prop} {a : Act} {w : World} (N : Nat) (env : Env) (d : Nat) (hgd : o.guard = none) (hd : o.dst = some d) (T : TypeId) (ho : o.op = .alloc T) (z : Value) (zs : List Value) (hz : ∀ w, (zeroValue T).run P w = .ok z w) (hzs : z.cells = zs.toArray)
    (hfr : Fr N env a) (hdn : d < N) (hn : env.all (fun p => !Nat.beq p.1 d) = true)
    (h : ∀ a' w', NewB w w' T zs → Fr N ((d, .pointer (some ⟨w.heap.size, 0, none⟩)) :: env) a' → Q .normal a' w') : (Code.region id #[o] false).wp P Q a w := by
  refine wp_region_list (wpList_var hgd T ho z zs hz hzs fun w' hw' => ?_)
  rw [hd]
  exact h _ w' hw' (hfr.put d _ hdn hn)
/-- A region that reads, and whose last operation stores one cell. -/
theorem reg_store {P : Program} {id : Nat} {ops : Array Oper} {Q : Exit → Act → World → Prop} {a : Act} {w : World} (C : World → Prop) (st : Oper) (hl' : ops.toList.getLast? = some st) (N : Nat) (env : Env) (vs : List Value) (lg : List (Option Item)) (keys : List Nat) (vals : List Value)
    (hs : small N ops.toList.dropLast = true) (hfr : Fr N env a)
    (hgo : ∀ r w, go P ops.toList.dropLast vs env r w = some (vs, List.replicate ops.toList.dropLast.length w, lg)) (hk : ∀ r, keys.map (look (envOf ops.toList.dropLast vs env) r) = vals)
    (hC : C w) (hok : AllOK P C lg) (hg : st.guard = none) (hdst : st.dst = none) {ty : TypeId} {x y : Operand} (hst : st.op = .store ty x y) {b k : Nat} {kd : IntKind} {n : Int} (hx : ∀ r, rho (envOf ops.toList.dropLast vs env) r x = .pointer (some ⟨b, k, none⟩)) (hy : ∀ r, rho (envOf ops.toList.dropLast vs env) r y = .int kd n)
    (hi : (P.info? ty).map (·.size) = some 1) (ht : ∀ w', C w' → w'.there b k 1)
    (h : ∀ a' w', C w' → Fr N (keys.zip vals) a' → Q .normal a' (w'.setCell ⟨b, k, none⟩ (.int kd n))) : (Code.region id ops false).wp P Q a w := by
  have hag : Agree N env (fun j => a.tmps.getD j undef) a := ⟨hfr.1, hfr.2.1, fun j => (look_of (fun j => a.tmps.getD j undef) env hfr.2.2 j).symm⟩
  have hl : ops.toList = ops.toList.dropLast ++ [st] := by
    have hne : ops.toList ≠ [] := fun e => by rw [e] at hl'; cases hl'
    rw [List.getLast?_eq_some_getLast hne] at hl'
    injection hl' with hl'
    rw [← hl']
    exact (List.dropLast_concat_getLast hne).symm
  obtain ⟨l1, hl1⟩ : ∃ l1, l1 = ops.toList.dropLast := ⟨_, rfl⟩
  rw [← hl1] at hl hs hgo hk hx hy
  refine wp_region_list ?_
  rw [hl]
  have fin : ∀ a', Agree N (envOf l1 vs env) (fun j => a.tmps.getD j undef) a' → ∀ w', C w' → wpList P ops Q [st] a' w' := fun a' ha' w' hC' => by
    refine wpList_plain hg fun K hK => ?_
    unfold Oper.wp
    rw [ha'.rho, store_run hst (hx _) (hy _) (ht w' hC') hi]
    refine hK _ _ ?_
    rw [hdst]
    show Q .normal a' _
    refine h a' w' hC' ⟨ha'.1, ha'.2.1, fun p hp => ?_⟩
    rw [ha'.2.2]
    have hv := hk (fun j => a.tmps.getD j undef)
    rw [← hv] at hp
    obtain ⟨n, hn, rfl⟩ := List.mem_iff_getElem.1 hp
    simp
  have key : ∀ (l : List Oper) (a : Act) (w : World), C w → wpQuiet P ops C (fun a' => ∀ w', C w' → wpList P ops Q [st] a' w') l a → wpList P ops Q (l ++ [st]) a w := by
    intro l
    induction l with
    | nil => intro a w hC h; exact h w hC
    | cons o l ih =>
      intro a w hC h
      unfold wpQuiet at h
      rw [List.cons_append]
      unfold wpList
      split
      · rename_i hw
        rw [if_pos hw] at h
        exact .inl (Oper.wp_of_quiet (K := wpQuiet P ops C (fun a' => ∀ w', C w' → wpList P ops Q [st] a' w') l) hC (fun a' w' hC' hk => ih a' w' hC' hk) h)
      · rename_i hw
        rw [if_neg hw] at h
        exact ih _ w hC h
  exact key l1 a w hC (wpQuiet_go l1 vs env lg a hs hag (hgo _) hok.mem fun a' ha' w' hC' => fin a' ha' w' hC')
theorem load_run {P : Program} {ρ : Operand → Value} {o : Oper} {ty : TypeId} {x : Operand} (ho : o.op = .load ty x) {b k : Nat} (hx : ρ x = .pointer (some ⟨b, k, none⟩)) {v : Value} {w : World} (hc : w.cell? ⟨b, k, none⟩ = some v) {d : TypeDesc} (hu : P.underlying ty = some d) (hd : d.isRow = false) :
    (execOp ρ o).run P w = .ok (.value v) w := by
  unfold execOp
  simp only [ho, hx, Instr.loadAt, Instr.sureAddr, Sem.run_bind, Sem.run_pure, Result.andThen_ok, run_loadOne w b k ty v d hc hu hd]
theorem index_run {P : Program} {ρ : Operand → Value} {o : Oper} {ty : TypeId} {x i : Operand} (ho : o.op = .indexAddr ty x i) {X I v : Value} (hx : ρ x = X) (hi : ρ i = I) {w : World} (hr : (Instr.indexAt ty X I).run P w = .ok v w) :
    (execOp ρ o).run P w = .ok (.value v) w := by
  unfold execOp
  simp only [ho, hx, hi, Sem.run_bind, Sem.run_pure, Result.andThen_ok, hr]
end Go.Proofs.Ytahkgkonpjimpaa
