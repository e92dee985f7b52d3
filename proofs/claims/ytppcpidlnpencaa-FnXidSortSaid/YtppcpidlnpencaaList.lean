/-
  Lists of byte slices that a call makes, and numbers that came in.
-/
import Derived.Test.YtppcpidlnpencaaBase
import Derived.Test.YtppcpidlnpencaaRow
namespace Go.Proofs.Ytppcpidlnpencaa
open Go.RowKit
set_option linter.unusedVariables false
theorem Try.infoS : (Try.prog.info? 22).map (fun i => (i.zero, i.size, i.bytes)) = some (some (.slice none 0 0), 1, 24) := by kernel_rfl
theorem Try.sizeS : (Try.prog.info? 22).map (·.size) = some 1 := by kernel_rfl
/-- v is a slice of the bytes L, in a block of bytes from base on. -/
def InB (w : World) (base : Nat) (v : Value) (L : List UInt8) : Prop := ∃ g cap rest, v = .slice (some ⟨g, 0, none⟩) L.length cap ∧ base ≤ g ∧ At w g 5 (L.map B8 ++ rest)
theorem InB.byt {w : World} {base : Nat} {v : Value} {L : List UInt8} (h : InB w base v L) : ∃ g cap, v = .slice (some ⟨g, 0, none⟩) L.length cap ∧ base ≤ g ∧ g < w.heap.size ∧ Byt w (some ⟨g, 0, none⟩) L := by
  obtain ⟨g, cap, rest, rfl, h1, h2⟩ := h
  exact ⟨g, cap, rfl, h1, h2.lt, h2.bytPre⟩
theorem InB.below {w w' : World} {base : Nat} {v : Value} {L : List UInt8} (h : InB w base v L) (hb : Below w.heap.size w w') : InB w' base v L := by
  obtain ⟨g, cap, rest, rfl, h1, h2⟩ := h
  exact ⟨g, cap, rest, rfl, h1, h2.below hb h2.lt⟩
theorem At.type {w : World} {g : Nat} {t t' : TypeId} {cs ds : List Value} (h : At w g t cs) (k : At w g t' ds) : t = t' := by
  unfold At at h k
  rw [h] at k
  injection k with k
  injection k
theorem InB.grown {w w' : World} {base k : Nat} {t : TypeId} {cs : List Value} {v : Value} {L : List UInt8} (h : InB w base v L) (hg : w.grownBy w' (some k)) (hk : At w k t cs) (ht : t ≠ 5) : InB w' base v L := by
  obtain ⟨g, cap, rest, rfl, h1, h2⟩ := h
  refine ⟨g, cap, rest, rfl, h1, h2.grown hg fun e => ht ?_⟩
  injection e with e
  subst e
  exact hk.type h2
/-- v is a slice that the call owns; its elements are slices of the bytes of Ls, one behind the other. -/
def RowsB (w : World) (base : Nat) (v : Value) (n : Nat) (Ls : List (List UInt8)) : Prop :=
  ∃ vs : List Value, w.ownsRow base 22 1 v n vs ∧ vs.length = Ls.length ∧ ∀ (j : Nat) (u : Value) (L : List UInt8), vs[j]? = some u → Ls[j]? = some L → InB w base u L
theorem RowsB.length {w : World} {base : Nat} {v : Value} {n : Nat} {Ls : List (List UInt8)} (h : RowsB w base v n Ls) : Ls.length = n := by
  obtain ⟨vs, h1, h2, -⟩ := h
  have := h1.1
  omega
theorem RowsB.below {w w' : World} {base : Nat} {v : Value} {n : Nat} {Ls : List (List UInt8)} (h : RowsB w base v n Ls) (hb : Below w.heap.size w w') : RowsB w' base v n Ls := by
  obtain ⟨vs, h1, h2, h3⟩ := h
  exact ⟨vs, h1.kept (grown_of_below hb none) (by cases v.ownBlock <;> simp), h2, fun j u L hu hL => (h3 j u L hu hL).below hb⟩
theorem ownsRow.at_ {w : World} {base : Nat} {e : TypeId} {v : Value} {n : Nat} {xs : List Value} (h : w.ownsRow base e 1 v n xs) : ∀ k, v.ownBlock = some k → ∃ cs, At w k e cs := by
  intro k hk
  rcases h.2 with ⟨rfl, -⟩ | ⟨g, cap, cur, rfl, hb, hg, -⟩
  · simp [Value.ownBlock] at hk
  · simp [Value.ownBlock] at hk
    subst hk
    exact ⟨cur.toList, hg⟩
theorem RowsB.grown {w w' : World} {base k : Nat} {t : TypeId} {cs : List Value} {v : Value} {n : Nat} {Ls : List (List UInt8)} (h : RowsB w base v n Ls) (hg : w.grownBy w' (some k)) (hk : At w k t cs) (ht : t ≠ 5) (ht' : t ≠ 22) : RowsB w' base v n Ls := by
  obtain ⟨vs, h1, h2, h3⟩ := h
  refine ⟨vs, h1.kept hg ?_, h2, fun j u L hu hL => (h3 j u L hu hL).grown hg hk ht⟩
  refine .inr fun e => ht' ?_
  obtain ⟨ds, hd⟩ := ownsRow.at_ h1 k e
  exact hk.type hd
theorem RowsB.empty (w : World) (base : Nat) (hb : base ≤ w.heap.size) : RowsB (w.alloc (.cells #[] 22)) base (.slice (some ⟨w.heap.size, 0, none⟩) 0 0) 0 [] :=
  ⟨[], World.ownsRow_made w #[] 0 hb (by simp [maxLen]) (by simp), rfl, fun j u L hu => by simp at hu⟩
theorem RowsB.cell {w : World} {base : Nat} {v : Value} {n : Nat} {Ls : List (List UInt8)} (h : RowsB w base v n Ls) (hp : 0 < n) : ∃ b cap, v = .slice (some ⟨b, 0, none⟩) n cap ∧ base ≤ b ∧ ∀ j L, Ls[j]? = some L → ∃ u, w.cell? ⟨b, j, none⟩ = some u ∧ InB w base u L := by
  obtain ⟨vs, h1, h2, h3⟩ := h
  rcases h1.2 with ⟨_, h0⟩ | ⟨g, cap, cur, rfl, hb, hg, k1, k2, k3, k4⟩
  · omega
  · refine ⟨g, cap, rfl, hb, fun j L hL => ?_⟩
    have hj : j < vs.length := by rw [h2]; exact (List.getElem?_eq_some_iff.1 hL).1
    refine ⟨vs[j], ?_, h3 j _ L (by simp [hj]) hL⟩
    have := h1.cells (g := g) rfl j vs[j] (by simp [hj])
    rw [add_plain', Nat.zero_add] at this
    exact this
theorem RowsB.slice {w : World} {base : Nat} {v : Value} {n : Nat} {Ls : List (List UInt8)} (h : RowsB w base v n Ls) : ∃ A cap, v = .slice A n cap := by
  obtain ⟨vs, h1, h2, h3⟩ := h
  rcases h1.2 with ⟨rfl, rfl⟩ | ⟨g, cap, cur, rfl, hb, hg, k1, k2, k3, k4⟩
  · exact ⟨none, 0, rfl⟩
  · exact ⟨_, cap, rfl⟩
/-- append of one slice of bytes onto such a list. -/
theorem wpList_appRow {P : Program} {w : World} {ops : Array Oper} {rest : List Oper} {o : Oper} {a : Act} {Q : Exit → Act → World → Prop} (hgd : o.guard = none) (s x : Operand) (t : TypeId)
    (ho : o.op = .call { callee := .builtin .append, args := #[s, x], argTypes := #[t, t] }) (base : Nat) (ht : P.underlying t = some (.slice 22))
    (hi : (P.info? 22).map (fun i => (i.zero, i.size, i.bytes)) = some (some (.slice none 0 0), 1, 24)) (v : Value) (n : Nat) (Ls : List (List UInt8)) (hs : a.eval s = v) (hown : RowsB w base v n Ls)
    (b : Nat) (u : Value) (L : List UInt8) (hx : a.eval x = .slice (some ⟨b, 0, none⟩) 1 1) (hc : w.cell? ⟨b, 0, none⟩ = some u) (hu : InB w base u L) (hmax : n ≤ 1000000) (hbase : base ≤ w.heap.size)
    (h : ∀ v' w', RowsB w' base v' (n + 1) (Ls ++ [L]) → (∀ W, Below base W w → Below base W w') → (∀ g t cs, t ≠ 22 → At w g t cs → At w' g t cs) → w.heap.size ≤ w'.heap.size → wpList P ops Q rest (a.put o.dst v') w') : wpList P ops Q (o :: rest) a w := by
  obtain ⟨i, hi1, hz0, hz1, hz2⟩ := info_parts hi
  obtain ⟨vs, h1, h2, h3⟩ := hown
  have hone : u.oneCell' = true := by obtain ⟨g, cap, r, rfl, -⟩ := hu; rfl
  refine wpList_append_own w hgd s x t ho base 22 i (.slice none 0 0) 1 24 ht hi1 hz0 hz1 hz2 rfl (by omega) v n vs hs h1 ⟨b, 0, none⟩ 1 1 [u] hx rfl ?_ ?_ (by simp only [maxLen]; omega) (by omega) hbase ?_
  · intro j u' hj
    have : j = 0 := by have := (List.getElem?_eq_some_iff.1 hj).1; simp at this; omega
    subst this
    simp at hj
    subst hj
    rw [add_plain']
    exact hc
  · intro u' hu'
    simp at hu'
    subst hu'
    exact hone
  · intro v' w' o1 g1 _
    have hat := ownsRow.at_ h1
    have keep : ∀ g t cs, t ≠ 22 → At w g t cs → At w' g t cs := fun g t cs hne hg => hg.grown g1 fun e => by
      obtain ⟨ds, hd⟩ := hat g e.symm
      exact hne (hg.type hd)
    have keepB : ∀ u L, InB w base u L → InB w' base u L := fun u L hI => by
      obtain ⟨g, cap, r, rfl, k1, k2⟩ := hI
      exact ⟨g, cap, r, rfl, k1, keep g _ _ (by decide) k2⟩
    refine h v' w' ⟨vs ++ [u], o1, by simp [h2], fun j u' L' hu' hL' => ?_⟩ (fun W hW => hW.grown g1 hbase (fun k hk => (h1.lt k hk).1)) keep g1.size
    rcases Nat.lt_trichotomy j vs.length with hj | hj | hj
    · rw [List.getElem?_append_left hj] at hu'
      rw [List.getElem?_append_left (by omega)] at hL'
      exact keepB _ _ (h3 j u' L' hu' hL')
    · subst hj
      rw [List.getElem?_append_right (Nat.le_refl _)] at hu'
      rw [List.getElem?_append_right (by omega)] at hL'
      simp [h2] at hu' hL'
      subst hu'
      subst hL'
      exact keepB _ _ hu
    · rw [List.getElem?_eq_none (by simp; omega)] at hu'
      cases hu'
/-- From address A on lie the numbers zs. -/
def I64s (w : World) (A : Option Addr) (zs : List Int) : Prop :=
  0 < zs.length → ∃ b off, A = some ⟨b, off, none⟩ ∧ b < w.heap.size ∧ ∀ j (h : j < zs.length), w.cell? ⟨b, off + j, none⟩ = some (.int .i64 zs[j])
theorem I64s.below {w w' : World} {A : Option Addr} {zs : List Int} {B : Nat} (h : I64s w A zs) (hb : Below B w w') (hB : w.heap.size ≤ B) : I64s w' A zs := fun hp => by
  obtain ⟨b, off, rfl, hlt, hc⟩ := h hp
  exact ⟨b, off, rfl, Nat.lt_of_lt_of_le hlt hb.size, fun j hj => (hb.cell (p := ⟨b, off + j, none⟩) (by show b < B; omega)).trans (hc j hj)⟩
theorem nums_of_row {w : World} {a : Option Addr} {len cap : Nat} {zs : List Int} (h : IsRow .i64 w a len cap zs) :
    ∃ ys : List Int, ys.length = len ∧ I64s w a ys ∧ (a = none → cap = 0) ∧ len ≤ cap ∧ ∀ z ∈ ys, -9223372036854775808 ≤ z ∧ z ≤ 9223372036854775807 := by
  rcases h with ⟨rfl, rfl, rfl, rfl⟩ | ⟨x, rfl, hl, hm, hz, hcell, hwz⟩
  · exact ⟨[], rfl, fun h => by simp at h, fun _ => rfl, Nat.le_refl _, fun z hz => by simp at hz⟩
  · refine ⟨zs.take len, by simp; omega, ?_, (fun h => by cases h), hl, fun z hz => ?_⟩
    · intro hp
      have hp' : 0 < zs.length := by simp at hp; omega
      obtain ⟨b, off, spot⟩ := x
      have hc := hcell 0 hp'
      have hspot : spot = none := by simpa [Addr.add] using World.cell?_spot hc
      subst hspot
      refine ⟨b, off, rfl, by simpa [Addr.add] using block_lt_of_cell hc, fun j hj => ?_⟩
      have hj' : j < zs.length := by simp at hj; omega
      have := hcell j hj'
      rw [add_plain'] at this
      rw [this]
      simp [List.getD, hj']
    · have h := hwz z (List.mem_of_mem_take hz)
      have h1 : IntKind.i64.min = -9223372036854775808 := rfl
      have h2 : IntKind.i64.max = 9223372036854775807 := rfl
      simp only [Lit.wf, Bool.and_eq_true, decide_eq_true_eq] at h
      omega
end Go.Proofs.Ytppcpidlnpencaa
