/-
  Aids for the digests' Write.
-/
import Derived.Test.YtahkgkonpjimpaaDig
import Derived.Test.YtahkgkonpjimpaaUuid
import Derived.IntWalk
namespace Go.Proofs.Ytahkgkonpjimpaa
open Go.RowKit
set_option linter.unusedVariables false
theorem Try.size64 : (Try.prog.info? 55).map (·.size) = some 1 := by kernel_rfl
theorem Try.sizeInt : (Try.prog.info? 3).map (·.size) = some 1 := by kernel_rfl
def ivM : S4 := (1732584193, 4023233417, 2562383102, 271733878)
def ivS : S5 := (1732584193, 4023233417, 2562383102, 271733878, 3285377520)
/-- The address is not in block g. -/
def Off (g : Nat) (A : Option Addr) : Prop := A = none ∨ ∃ b off, A = some ⟨b, off, none⟩ ∧ b ≠ g
theorem grown_self (w : World) (r : Option Nat) : w.grownBy w r := ⟨rfl, rfl, rfl, Nat.le_refl _, fun _ _ _ => rfl⟩
theorem grown_drew {w0 w : World} {r : Option Nat} (h : w0.grownBy w r) : w0.grownBy w.drew r := ⟨h.os, h.tape, h.output, h.size, h.block⟩
theorem grown_set (w : World) (g k : Nat) (v : Value) : w.grownBy (w.setCell ⟨g, k, none⟩ v) (some g) := ⟨rfl, rfl, rfl, by simp [World.setCell], fun i _ hi => Below.heap_setCell w _ v i (by simpa using hi)⟩
theorem Drawn.at_ {w w' : World} (h : Drawn w w') {g : Nat} {t : TypeId} {cs : List Value} (hg : At w g t cs) : At w' g t cs := by
  obtain ⟨n, rfl⟩ := h
  exact hg
theorem Drawn.grown {w w' : World} (h : Drawn w w') {w0 : World} {r : Option Nat} (hg : w0.grownBy w r) : w0.grownBy w' r := by
  obtain ⟨n, rfl⟩ := h
  exact ⟨hg.os, hg.tape, hg.output, hg.size, hg.block⟩
theorem Drawn.byt {w w' : World} (h : Drawn w w') {A : Option Addr} {bs : List UInt8} (hb : Byt w A bs) : Byt w' A bs := by
  obtain ⟨n, rfl⟩ := h
  exact hb.drewN n
theorem Byt.grown {w w' : World} {A : Option Addr} {bs : List UInt8} {g : Nat} (h : Byt w A bs) (hg : w.grownBy w' (some g)) (hA : Off g A) : Byt w' A bs := fun hp => by
  obtain ⟨b, off, rfl, hlt, hc⟩ := h hp
  have hne : b ≠ g := by
    rcases hA with h | ⟨b', o', h, hne⟩
    · cases h
    · injection h with h; injection h with h; rw [h]; exact hne
  refine ⟨b, off, rfl, Nat.lt_of_lt_of_le hlt hg.size, fun j hj => ?_⟩
  have hbl := hg.block b hlt (by simpa using hne)
  have : w'.cell? ⟨b, off + j, none⟩ = w.cell? ⟨b, off + j, none⟩ := by simp [World.cell?, hbl]
  rw [this]
  exact hc j hj
theorem Byt.lt {w : World} {b o : Nat} {bs : List UInt8} (h : Byt w (some ⟨b, o, none⟩) bs) (hp : 0 < bs.length) : b < w.heap.size := by
  obtain ⟨b', o', e, hlt, -⟩ := h hp
  injection e with e
  injection e with e
  rw [e]; exact hlt
theorem u64_small (z : Int) (h : 0 ≤ z ∧ z ≤ 1000000000000) : IntKind.u64.wrap z = z := by
  simp [IntKind.wrap, IntKind.bits, IntKind.signed]; omega
theorem At.there1 {w : World} {g : Nat} {t : TypeId} {cs : List Value} (h : At w g t cs) (k : Nat) (hk : k < cs.length) : w.there g k 1 := fun j hj => by
  obtain rfl : j = 0 := by omega
  exact ⟨by rw [Nat.add_zero, h.cell k hk]; rfl, by rw [Nat.add_zero]; exact h.frozen k⟩
theorem if_len {b : Bool} {X Y : List UInt8} (h1 : X.length = 64) (h2 : Y.length = 64) : (if b = true then X else Y).length = 64 := by split <;> assumption
theorem slice_run {P : Program} {ρ : Operand → Value} {o : Oper} {ty : TypeId} {x : Operand} {lo hi mx : Option Operand} (ho : o.op = .slice ty x lo hi mx) {X v : Value} {L H M : Option Value} (hx : ρ x = X) (hl : lo.map ρ = L) (hh : hi.map ρ = H) (hmx : mx.map ρ = M) {w : World} (hr : (Instr.sliceAt ty X L H M).run P w = .ok v w) :
    (execOp ρ o).run P w = .ok (.value v) w := by
  unfold execOp
  simp only [ho, hx, hl, hh, hmx, Sem.run_bind, Sem.run_pure, Result.andThen_ok, hr]
theorem sliceX4 (g q : Nat) (hq : q < 64) (w : World) : (Instr.sliceAt 54 (.pointer (some ⟨g, 4, none⟩)) (some (.int .i64 (q : Int))) none none).run Try.prog w = .ok (.slice (some ⟨g, 4 + q, none⟩) (64 - q) (64 - q)) w := by
  have q1 : (q : Int) ≤ 64 := by omega
  have q2 : ¬ 64 = q := by omega
  unfold Instr.sliceAt
  go_simp
theorem sliceX5 (g q : Nat) (hq : q < 64) (w : World) : (Instr.sliceAt 54 (.pointer (some ⟨g, 5, none⟩)) (some (.int .i64 (q : Int))) none none).run Try.prog w = .ok (.slice (some ⟨g, 5 + q, none⟩) (64 - q) (64 - q)) w := by
  have q1 : (q : Int) ≤ 64 := by omega
  have q2 : ¬ 64 = q := by omega
  unfold Instr.sliceAt
  go_simp
theorem slice_to (b o n c k : Nat) (hk : k ≤ c) (w : World) : (Instr.sliceAt 22 (.slice (some ⟨b, o, none⟩) n c) none (some (.int .i64 (k : Int))) none).run Try.prog w = .ok (.slice (some ⟨b, o, none⟩) k c) w := by
  have q1 : (k : Int) ≤ (c : Int) := by omega
  unfold Instr.sliceAt
  go_simp
theorem slice_some_from (b o n c k : Nat) (hk : k ≤ n) (hn : n ≤ c) (w : World) : (Instr.sliceAt 22 (.slice (some ⟨b, o, none⟩) n c) (some (.int .i64 (k : Int))) none none).run Try.prog w = .ok (.slice (if c = k then some ⟨b, o, none⟩ else some ⟨b, o + k, none⟩) (n - k) (c - k)) w := by
  have q1 : (k : Int) ≤ (n : Int) := by omega
  unfold Instr.sliceAt
  go_simp
theorem slice_none_from (n c k : Nat) (hk : k ≤ n) (hn : n ≤ c) (w : World) : (Instr.sliceAt 22 (.slice none n c) (some (.int .i64 (k : Int))) none none).run Try.prog w = .ok (.slice none (n - k) (c - k)) w := by
  have q1 : (k : Int) ≤ (n : Int) := by omega
  unfold Instr.sliceAt
  go_simp
theorem slice_drop (g : Nat) (A : Option Addr) (n c r : Nat) (p : List UInt8) (hp : p.length = n) (hnc : n ≤ c) (hr : r ≤ n) (hA : Off g A) :
    ∃ A' c', (∀ w, (Instr.sliceAt 22 (.slice A n c) (some (.int .i64 (r : Int))) none none).run Try.prog w = .ok (.slice A' (n - r) c') w) ∧ (∀ w, Byt w A p → Byt w A' (p.drop r)) ∧ n - r ≤ c' ∧ Off g A' := by
  rcases hA with rfl | ⟨b, off, rfl, hne⟩
  · refine ⟨none, c - r, fun w => slice_none_from n c r hr hnc w, fun w hb hp' => ?_, by omega, .inl rfl⟩
    obtain ⟨b, off, h, -⟩ := hb (by simp at hp'; omega)
    cases h
  · refine ⟨_, c - r, fun w => slice_some_from b off n c r hr hnc w, fun w hb => ?_, by omega, ?_⟩
    · by_cases h : c = r
      · rw [show p.drop r = [] from List.drop_eq_nil_of_le (by omega)]
        exact Byt.nil _ _
      · rw [if_neg h]
        exact hb.drop r
    · split
      · exact .inr ⟨b, off, rfl, hne⟩
      · exact .inr ⟨b, off + r, rfl, hne⟩
theorem andNot63 : ∀ x : Fin 400, bits .andNot .i64 ((x.val : Nat) : Int) 63 = ((64 * (x.val / 64) : Nat) : Int) := by decide +kernel
theorem results_two {fn : Func} {t u : Tmp} (h : fn.results = #[.tmp t, .tmp u]) {a : Act} {x y : Value} (h1 : a.eval (.tmp t) = x) (h2 : a.eval (.tmp u) = y) {P : Program} {w : World} : (results fn a.tmps).run P w = .ok (.tuple #[x, y]) w := by
  rw [results_tmp2 h, ← h1, ← h2]
  rfl
/-- The state of a block while a region with up to two writers is under way. -/
def GS (w0 : World) (g : Nat) (t : TypeId) (i j : Nat) (cs : Bool → Bool → List Value) (l : Array Bool) (w : World) : Prop := At w g t (cs (l.getD i false) (l.getD j false)) ∧ w0.grownBy w (some g)
section
variable {w0 w w'' : World} {g : Nat} {t : TypeId} {i j : Nat} {cs : Bool → Bool → List Value} {l : Array Bool}
theorem GS.other (h : GS w0 g t i j cs l w) (q : Nat) (h1 : q ≠ i) (h2 : q ≠ j) : GS w0 g t i j cs (l.setIfInBounds q true) w := by
  unfold GS
  rw [getD_set_ne false h1, getD_set_ne false h2]
  exact h
theorem GS.one (h : GS w0 g t i j cs l w) (hs : i < l.size) (hun : l.getD i false = false) (hat : ∀ b, At w'' g t (cs true b)) (hgr : w0.grownBy w'' (some g)) : GS w0 g t i j cs (l.setIfInBounds i true) w'' := by
  unfold GS
  rw [show (l.setIfInBounds i true).getD i false = true by simp [hs]]
  exact ⟨hat _, hgr⟩
theorem GS.one1 (h : GS w0 g t i j cs l w) (hs : i < l.size) (hun : l.getD i false = false) (hne : i ≠ j) (hat : At w'' g t (cs true (l.getD j false))) (hgr : w0.grownBy w'' (some g)) : GS w0 g t i j cs (l.setIfInBounds i true) w'' := by
  unfold GS
  rw [show (l.setIfInBounds i true).getD i false = true by simp [hs], getD_set_ne false hne]
  exact ⟨hat, hgr⟩
theorem GS.two (h : GS w0 g t i j cs l w) (hs : j < l.size) (hun : l.getD j false = false) (hne : j ≠ i) (hat : At w'' g t (cs (l.getD i false) true)) (hgr : w0.grownBy w'' (some g)) : GS w0 g t i j cs (l.setIfInBounds j true) w'' := by
  unfold GS
  rw [show (l.setIfInBounds j true).getD j false = true by simp [hs], getD_set_ne false hne]
  exact ⟨hat, hgr⟩
end
def WrOk {S : Type} (t : TypeId) (cl : S → List Value) (G : List UInt8 → Nat → S → S) (iv : S) (g : Nat) (TP : List UInt8) (n : Nat) (w0 : World) (e : Ending) (w' : World) : Prop :=
  e = .returned (.tuple #[.int .i64 (n : Int), .nilIface]) ∧ (∃ (s' : S) (X' : List UInt8) (q' : Nat), Left G iv TP s' X' q' ∧ At w' g t (DCg (cl s') X' q' TP.length)) ∧ w0.grownBy w' (some g)
def Mid {S : Type} (N : Nat) (t : TypeId) (cl : S → List Value) (G : List UInt8 → Nat → S → S) (iv : S) (g : Nat) (TP : List UInt8) (n : Nat) (w0 : World) (mx : Nat) (w : World) (a : Act) : Prop :=
  ∃ (T1 P1 : List UInt8) (s1 : S) (X1 : List UInt8) (q1 : Nat) (A1 : Option Addr) (c1 : Nat), T1 ++ P1 = TP ∧ Left G iv T1 s1 X1 q1 ∧ At w g t (DCg (cl s1) X1 q1 TP.length) ∧ w0.grownBy w (some g) ∧ (q1 = 0 ∨ P1 = []) ∧ Byt w0 A1 P1 ∧ Off g A1 ∧ P1.length ≤ c1 ∧ P1.length ≤ mx ∧
    Fr N [(0, .pointer (some ⟨g, 0, none⟩)), (1, .slice A1 P1.length c1), (4, .int .i64 (n : Int)), (5, .nilIface)] a
theorem md5_blockAt (g : Nat) (s : S4) (rest : List Value) (B o m c n : Nat) (hn : n = 64 * m) (hnc : n ≤ c) (hbig : n ≤ 1000000) (bs : List UInt8) (hbs : bs.length = n) (w0 : World) (hg : At w0 g 57 (cellsM s ++ rest)) (hB : B < w0.heap.size) (hb : ∀ j (h : j < bs.length), w0.cell? ⟨B, o + j, none⟩ = some (B8 bs[j])) :
    Calls Try.prog 27 #[.pointer (some ⟨g, 0, none⟩), .slice (some ⟨B, o, none⟩) n c] w0 fun e w' => e = .returned (.tuple #[]) ∧ At w' g 57 (cellsM (BsFrom md5G bs 0 s m) ++ rest) ∧ w0.grownBy w' (some g) := by
  refine (md5_block g s rest B o m c n hn hnc hbig bs hbs w0 hg hb).mono ?_
  rintro e w' ⟨rfl, hp⟩
  rw [md5Bs_from] at hp
  exact ⟨rfl, hp.at_, hp.grown⟩
set_option maxRecDepth 100000 in
theorem sha1_blockAt (g : Nat) (s : S5) (rest : List Value) (B o m c n : Nat) (hn : n = 64 * m) (hnc : n ≤ c) (hbig : n ≤ 1000000) (bs : List UInt8) (hbs : bs.length = n) (w0 : World) (hg : At w0 g 62 (cellsS s ++ rest)) (hB : B < w0.heap.size) (hb : ∀ j (h : j < bs.length), w0.cell? ⟨B, o + j, none⟩ = some (B8 bs[j])) :
    Calls Try.prog 30 #[.pointer (some ⟨g, 0, none⟩), .slice (some ⟨B, o, none⟩) n c] w0 fun e w' => e = .returned (.tuple #[]) ∧ At w' g 62 (cellsS (BsFrom sha1G bs 0 s m) ++ rest) ∧ w0.grownBy w' (some g) := by
  have HC := Lib.hid (sha1_block g s rest B o m c n hn hnc hbig bs hbs w0 hg hB hb)
  rw [sha1Bs_from] at HC
  clear hn hnc hbig hbs hg hB hb
  go_enter Try.func30, Try.ntmps30
  go_wp2_with (go_at_call 39; refine (HC.out).mono ?_; rintro e w' ⟨rfl, k1, k2⟩; have K1 := Lib.hid k1; have K2 := Lib.hid k2; clear k1 k2)
  refine bodyPost_end (results_none rfl _ _ _) rfl ?_
  exact ⟨rfl, K1.out, K2.out⟩
end Go.Proofs.Ytahkgkonpjimpaa
