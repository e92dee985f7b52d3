/-
  Regions that only read, on a frame of which some slots are known: the operations' values are laid open beforehand, one closed equation a region.
-/
import Derived.Test.YtahkgkonpjimpaaBase
import Derived.Test.YtahkgkonpjimpaaCell
import Derived.Deep.Quiet
namespace Go.Proofs.Ytahkgkonpjimpaa
open Go.RowKit
set_option linter.unusedVariables false
abbrev Env := List (Nat × Value)
def look (env : Env) (r : Nat → Value) (j : Nat) : Value :=
  match env with
  | [] => r j
  | (k, v) :: e => match Nat.beq j k with
    | true => v
    | false => look e r j
def rho (env : Env) (r : Nat → Value) : Operand → Value
  | .tmp t => look env r t
  | .const v => v
  | .global g => .pointer (some ⟨g, 0, none⟩)
  | .func f => .func (.func f) #[] #[]
/-- What is known of a frame: its size, that nothing is deferred, and some slots. -/
def Fr (N : Nat) (env : Env) (a : Act) : Prop := a.tmps.size = N ∧ a.defers = [] ∧ ∀ p ∈ env, a.tmps.getD p.1 undef = p.2
theorem look_of (r : Nat → Value) : ∀ (env : Env), (∀ p ∈ env, r p.1 = p.2) → ∀ j, look env r j = r j
  | [], _, j => rfl
  | (k, v) :: e, h, j => by
    unfold look
    cases hb : Nat.beq j k with
    | true =>
      have : j = k := Nat.eq_of_beq_eq_true hb
      subst this
      exact (h (j, v) (by simp)).symm
    | false => exact look_of r e (fun p hp => h p (by simp [hp])) j
inductive Item where
  | sem (s : Sem Value) (v : Value)
  | call (f : FuncId) (args : Array Value) (v : Value)
def ItemOK (P : Program) (C : World → Prop) : Item → Prop
  | .sem s v => ∀ w, C w → s.run P w = .ok v w
  | .call f args v => ∀ w, C w → Calls P f args w fun e w' => e = .returned v ∧ C w'
def ext (o : Oper) (v : Value) (env : Env) : Env :=
  match o.dst with
  | some d => (d, v) :: env
  | none => env
def envOf : List Oper → List Value → Env → Env
  | o :: l, v :: vs, env => envOf l vs (ext o v env)
  | _, _, env => env
def opGo (P : Program) (env : Env) (r : Nat → Value) (w : World) (o : Oper) (v : Value) : Option (Value × World × Option Item) :=
  match o.op with
  | .load t x => some (v, w, some (.sem (Instr.loadAt t (rho env r x)) v))
  | .slice t x lo hi mx => some (v, w, some (.sem (Instr.sliceAt t (rho env r x) (lo.map (rho env r)) (hi.map (rho env r)) (mx.map (rho env r))) v))
  | .indexAddr t x ix => some (v, w, some (.sem (Instr.indexAt t (rho env r x) (rho env r ix)) v))
  | _ => match (execOp (rho env r) o).run P w with
    | .ok (.value u) w' => some (u, w', none)
    | .ok (.enter f args) w' => some (v, w', some (.call f args v))
    | _ => none
def go (P : Program) : List Oper → List Value → Env → (Nat → Value) → World → Option (List Value × List World × List (Option Item))
  | o :: l, v :: vs, env, r, w =>
    match o.guard with
    | some _ => none
    | none => match opGo P env r w o v, go P l vs (ext o v env) r w with
      | some (u, w', lg), some (us, ws, lgs) => some (u :: us, w' :: ws, lg :: lgs)
      | _, _ => none
  | [], [], _, _, _ => some ([], [], [])
  | _, _, _, _, _ => none
def small (N : Nat) (l : List Oper) : Bool := l.all fun o => match o.dst with
  | some d => Nat.blt d N
  | none => true
def Agree (N : Nat) (env : Env) (r : Nat → Value) (a : Act) : Prop := a.tmps.size = N ∧ a.defers = [] ∧ ∀ j, a.tmps.getD j undef = look env r j
theorem Agree.rho {N : Nat} {env : Env} {r : Nat → Value} {a : Act} (h : Agree N env r a) : a.eval = rho env r := by
  funext x
  cases x with
  | tmp t => exact h.2.2 t
  | const v => rfl
  | global g => rfl
  | func f => rfl
theorem Agree.put {N : Nat} {env : Env} {r : Nat → Value} {a : Act} (h : Agree N env r a) (o : Oper) (v : Value) (hs : (match o.dst with | some d => Nat.blt d N | none => true) = true) : Agree N (ext o v env) r (a.put o.dst v) := by
  unfold ext
  cases hd : o.dst with
  | none => exact h
  | some d =>
    rw [hd] at hs
    have hlt : d < N := by simpa [Nat.blt_eq] using hs
    refine ⟨by simp [Act.put, h.1], by simp [Act.put, h.2.1], fun j => ?_⟩
    unfold look
    simp only [Act.put]
    cases hb : Nat.beq j d with
    | true =>
      have : j = d := Nat.eq_of_beq_eq_true hb
      subst this
      simp [Array.getD, h.1, hlt]
    | false =>
      have hne : d ≠ j := fun e => by subst e; simp at hb
      have := h.2.2 j
      rw [← this]
      simp only [Array.getD_eq_getD_getElem?]
      rw [Array.getElem?_setIfInBounds_ne hne]
theorem quietAt_of {P : Program} {C : World → Prop} {env : Env} {r : Nat → Value} {o : Oper} {v : Value} {lg : Option Item} {a : Act} (ha : a.eval = rho env r)
    (h : ∀ w, opGo P env r w o v = some (v, w, lg)) (hok : ∀ it, lg = some it → ItemOK P C it) : ∀ w, C w → o.quietAt P a C w v := by
  intro w hw
  have hh := h w
  unfold Oper.quietAt
  rw [ha]
  unfold opGo at hh
  split at hh
  · rename_i t x ho
    injection hh with hh
    injection hh with _ hh
    injection hh with _ hh
    have := hok _ hh.symm w hw
    unfold execOp
    simp only [ho, Sem.run_bind, this, Result.andThen_ok, Sem.run_pure]
    exact ⟨rfl, rfl⟩
  · rename_i t x lo hi mx ho
    injection hh with hh
    injection hh with _ hh
    injection hh with _ hh
    have := hok _ hh.symm w hw
    unfold execOp
    simp only [ho, Sem.run_bind, this, Result.andThen_ok, Sem.run_pure]
    exact ⟨rfl, rfl⟩
  · rename_i t x ix ho
    injection hh with hh
    injection hh with _ hh
    injection hh with _ hh
    have := hok _ hh.symm w hw
    unfold execOp
    simp only [ho, Sem.run_bind, this, Result.andThen_ok, Sem.run_pure]
    exact ⟨rfl, rfl⟩
  · split at hh
    · rename_i u w' hrun
      rw [hrun]
      injection hh with hh
      injection hh with h1 hh
      injection hh with h2 hh
      exact ⟨h2, h1⟩
    · rename_i f args w' hrun
      rw [hrun]
      injection hh with hh
      injection hh with h1 hh
      injection hh with h2 hh
      exact ⟨h2, hok (.call f args v) hh.symm w hw⟩
    · cases hh
theorem wpQuiet_go {P : Program} {ops : Array Oper} {C : World → Prop} {Q : Act → Prop} {N : Nat} {r : Nat → Value} : ∀ (l : List Oper) (vs : List Value) (env : Env) (lg : List (Option Item)) (a : Act), small N l = true → Agree N env r a →
    (∀ w, go P l vs env r w = some (vs, List.replicate l.length w, lg)) → (∀ it, some it ∈ lg → ItemOK P C it) → (∀ a', Agree N (envOf l vs env) r a' → Q a') → wpQuiet P ops C Q l a
  | [], vs, env, lg, a, hs, ha, hgo, hok, h => by
    cases vs with
    | nil => exact h a ha
    | cons v vs => have := hgo default; simp [go] at this
  | o :: l, [], env, lg, a, hs, ha, hgo, hok, h => by
    have := hgo default; simp [go] at this
  | o :: l, v :: vs, env, lg, a, hs, ha, hgo, hok, h => by
    have hg : o.guard = none := by
      have := hgo default
      unfold go at this
      cases hg : o.guard with
      | none => rfl
      | some _ => simp [hg] at this
    have key : ∃ lg1 lg2, lg = lg1 :: lg2 ∧ (∀ w, opGo P env r w o v = some (v, w, lg1)) ∧ ∀ w, go P l vs (ext o v env) r w = some (vs, List.replicate l.length w, lg2) := by
      have each : ∀ w, ∃ lg1 lg2, lg = lg1 :: lg2 ∧ opGo P env r w o v = some (v, w, lg1) ∧ go P l vs (ext o v env) r w = some (vs, List.replicate l.length w, lg2) := fun w => by
        have hw := hgo w
        unfold go at hw
        rw [hg] at hw
        simp only at hw
        cases h1 : opGo P env r w o v with
        | none => simp [h1] at hw
        | some x =>
          cases h2 : go P l vs (ext o v env) r w with
          | none => simp [h1, h2] at hw
          | some y =>
            obtain ⟨u, w1, lg1⟩ := x
            obtain ⟨us, ws, lg2⟩ := y
            simp only [h1, h2, List.length_cons, List.replicate_succ, Option.some.injEq, Prod.mk.injEq, List.cons.injEq] at hw
            obtain ⟨⟨e1, e2⟩, ⟨e3, e4⟩, e5⟩ := hw
            exact ⟨lg1, lg2, e5.symm, by rw [e1, e3], by rw [e2, e4]⟩
      obtain ⟨lg1, lg2, e, -, -⟩ := each default
      refine ⟨lg1, lg2, e, fun w => ?_, fun w => ?_⟩
      · obtain ⟨k1, k2, e', g1, -⟩ := each w
        rw [e] at e'
        injection e' with e1 e2
        rw [e1]; exact g1
      · obtain ⟨k1, k2, e', -, g2⟩ := each w
        rw [e] at e'
        injection e' with e1 e2
        rw [e2]; exact g2
    obtain ⟨lg1, lg2, rfl, h1, h2⟩ := key
    have hs' : (match o.dst with | some d => Nat.blt d N | none => true) = true ∧ small N l = true := by
      unfold small at hs
      rw [List.all_cons, Bool.and_eq_true] at hs
      exact hs
    have hw : Region.wanted o (yielded ops a.tmps) = true := by unfold Region.wanted; rw [hg]
    unfold wpQuiet
    rw [if_pos hw]
    refine ⟨v, quietAt_of ha.rho h1 fun it he => hok it (by rw [he]; simp), ?_⟩
    exact wpQuiet_go l vs _ lg2 _ hs'.2 (ha.put o v hs'.1) h2 (fun it hi => hok it (by simp [hi])) h
theorem wpList_of_quiet {P : Program} {ops : Array Oper} {C : World → Prop} {Q : Act → Prop} {Q' : Exit → Act → World → Prop} : ∀ (l : List Oper) (a : Act) (w : World), C w → wpQuiet P ops C Q l a → (∀ a' w', C w' → Q a' → Q' .normal a' w') → wpList P ops Q' l a w
  | [], a, w, hC, h, hq => hq a w hC h
  | o :: l, a, w, hC, h, hq => by
    unfold wpQuiet at h
    unfold wpList
    split
    · rename_i hw
      rw [if_pos hw] at h
      exact .inl (Oper.wp_of_quiet (K := wpQuiet P ops C Q l) hC (fun a' w' hC' hk => wpList_of_quiet l a' w' hC' hk hq) h)
    · rename_i hw
      rw [if_neg hw] at h
      exact wpList_of_quiet l _ w hC h hq
/-- A region that only reads, drawn or not. -/
theorem reg_quiet {P : Program} {id : Nat} {ops : Array Oper} {Q : Exit → Act → World → Prop} {a : Act} {w : World} (C : World → Prop) (b : Bool) (N : Nat) (env : Env) (vs : List Value) (lg : List (Option Item)) (keys : List Nat) (vals : List Value)
    (hm : P.follows .mixedOrders = true) (hB : (!b || Region.lexB .any ops) = true) (hs : small N ops.toList = true) (hfr : Fr N env a)
    (hgo : ∀ r w, go P ops.toList vs env r w = some (vs, List.replicate ops.toList.length w, lg)) (hk : ∀ r, keys.map (look (envOf ops.toList vs env) r) = vals)
    (hC : C w) (hCd : b = true → C w.drew) (hok : ∀ it, some it ∈ lg → ItemOK P C it) (h : ∀ a' w', C w' → Fr N (keys.zip vals) a' → Q .normal a' w') : (Code.region id ops b).wp P Q a w := by
  have hag : Agree N env (fun j => a.tmps.getD j undef) a := ⟨hfr.1, hfr.2.1, fun j => (look_of (fun j => a.tmps.getD j undef) env hfr.2.2 j).symm⟩
  have hq : wpQuiet P ops C (fun a' => Fr N (keys.zip vals) a') ops.toList a := by
    refine wpQuiet_go ops.toList vs env lg a hs hag (hgo _) hok fun a' ha' => ⟨ha'.1, ha'.2.1, fun p hp => ?_⟩
    rw [ha'.2.2]
    have hv := hk (fun j => a.tmps.getD j undef)
    rw [← hv] at hp
    obtain ⟨n, hn, rfl⟩ := List.mem_iff_getElem.1 hp
    simp
  cases b with
  | false => exact wp_region_list (wpList_of_quiet _ a w hC hq fun a' w' hC' hf => h a' w' hC' hf)
  | true =>
    refine wp_region_quiet (C := C) hm (by simpa using hB) (hCd rfl) ?_
    have mono : ∀ (l : List Oper) (a : Act), wpQuiet P ops C (fun a' => Fr N (keys.zip vals) a') l a → wpQuiet P ops C (fun a' => ∀ w', C w' → Q .normal a' w') l a := by
      intro l
      induction l with
      | nil => intro a hh w' hw'; exact h a w' hw' hh
      | cons o l ih =>
        intro a hh
        unfold wpQuiet at hh ⊢
        split
        · rename_i hw; rw [if_pos hw] at hh; exact Oper.quiet_mono ih hh
        · rename_i hw; rw [if_neg hw] at hh; exact ih _ hh
    exact mono _ _ hq
def AllOK (P : Program) (C : World → Prop) : List (Option Item) → Prop
  | [] => True
  | none :: l => AllOK P C l
  | some it :: l => ItemOK P C it ∧ AllOK P C l
theorem AllOK.mem {P : Program} {C : World → Prop} : ∀ {l : List (Option Item)}, AllOK P C l → ∀ it, some it ∈ l → ItemOK P C it
  | [], _, it, h => by cases h
  | none :: l, hk, it, h => AllOK.mem (l := l) hk it (by simpa using h)
  | some i :: l, hk, it, h => by
    rcases List.mem_cons.1 h with h | h
    · injection h with h; rw [h]; exact hk.1
    · exact AllOK.mem (l := l) hk.2 it h
theorem seq_quiet {P : Program} {id : Nat} {ops : Array Oper} {y : Code} {Q : Exit → Act → World → Prop} {a : Act} {w : World} (C : World → Prop) {b : Bool} (N : Nat) (env : Env) (vs : List Value) (lg : List (Option Item)) (keys : List Nat) (vals : List Value)
    (hm : P.follows .mixedOrders = true) (hB : (!b || Region.lexB .any ops) = true) (hs : small N ops.toList = true) (hfr : Fr N env a)
    (hgo : ∀ r w, go P ops.toList vs env r w = some (vs, List.replicate ops.toList.length w, lg)) (hk : ∀ r, keys.map (look (envOf ops.toList vs env) r) = vals)
    (hC : C w) (hCd : b = true → C w.drew) (hok : AllOK P C lg) (h : ∀ a' w', C w' → Fr N (keys.zip vals) a' → y.wp P Q a' w') : (Code.seq (Code.region id ops b) y).wp P Q a w :=
  wp_seq (reg_quiet C b N env vs lg keys vals hm hB hs hfr hgo hk hC hCd hok.mem h)
theorem last_quiet {P : Program} {id : Nat} {ops : Array Oper} {Q : Exit → Act → World → Prop} {a : Act} {w : World} (C : World → Prop) {b : Bool} (N : Nat) (env : Env) (vs : List Value) (lg : List (Option Item)) (keys : List Nat) (vals : List Value)
    (hm : P.follows .mixedOrders = true) (hB : (!b || Region.lexB .any ops) = true) (hs : small N ops.toList = true) (hfr : Fr N env a)
    (hgo : ∀ r w, go P ops.toList vs env r w = some (vs, List.replicate ops.toList.length w, lg)) (hk : ∀ r, keys.map (look (envOf ops.toList vs env) r) = vals)
    (hC : C w) (hCd : b = true → C w.drew) (hok : AllOK P C lg) (h : ∀ a' w', C w' → Fr N (keys.zip vals) a' → Q .normal a' w') : (Code.region id ops b).wp P Q a w :=
  reg_quiet C b N env vs lg keys vals hm hB hs hfr hgo hk hC hCd hok.mem h
theorem load_item {P : Program} {w0 : World} {b o : Nat} {ty : TypeId} {v : Value} {d : TypeDesc} (hc : w0.cell? ⟨b, o, none⟩ = some v) (hu : P.underlying ty = some d) (hd : d.isRow = false) : ItemOK P (fun w => ∃ n, w = w0.drewN n) (.sem (Instr.loadAt ty (.pointer (some ⟨b, o, none⟩))) v) := fun w hw => by
  obtain ⟨n, rfl⟩ := hw
  have hc' : (w0.drewN n).cell? ⟨b, o, none⟩ = some v := hc
  simp only [Instr.loadAt, Instr.sureAddr, Sem.run_bind, Sem.run_pure, Result.andThen_ok, run_loadOne (w0.drewN n) b o ty v d hc' hu hd]
/-- The worlds that are w after some draws. -/
def Drawn (w w' : World) : Prop := ∃ n, w' = w.drewN n
theorem Drawn.refl (w : World) : Drawn w w := ⟨0, rfl⟩
theorem Drawn.drew {w w' : World} (h : Drawn w w') : Drawn w w'.drew := by
  obtain ⟨n, rfl⟩ := h
  exact ⟨n + 1, (World.drewN_drewN w n 1).symm ▸ rfl⟩
theorem Drawn.trans {a b c : World} (h : Drawn a b) (k : Drawn b c) : Drawn a c := by
  obtain ⟨n, rfl⟩ := h
  obtain ⟨m, rfl⟩ := k
  exact ⟨n + m, World.drewN_drewN a n m⟩
theorem Fr.get {N : Nat} {env : Env} {a : Act} (h : Fr N env a) {j : Nat} {v : Value} (hm : (j, v) ∈ env) : a.eval (.tmp j) = v := h.2.2 (j, v) hm
end Go.Proofs.Ytahkgkonpjimpaa
