/-
  spec.Sorted.
-/
import Derived.Test.YtppcpidlnpencaaSort5
import Derived.Test.YtppcpidlnpencaaReg3
namespace Go.Proofs.Ytppcpidlnpencaa
open Go.RowKit
set_option linter.unusedVariables false
theorem wp_copyR {P : Program} {op : Oper} {a : Act} {w : World} {K : Act → World → Prop} {Q : Exit → Act → World → Prop} (d s : Operand) (dT sT : TypeId) (ho : op.op = .call { callee := .builtin .copy, args := #[d, s], argTypes := #[dT, sT] })
    (elem : TypeId) (hu : P.underlying dT = some (.slice elem)) (hsz : (P.info? elem).map (·.size) = some 1) (dp sp : Option Addr) (dLen dCap sLen sCap : Nat) (hd : a.eval d = .slice dp dLen dCap) (hs : a.eval s = .slice sp sLen sCap)
    (g o : Nat) (ad : Addr) (t : TypeId) (cur cs : List Value) (hg : At w g t cur) (hn : cs.length = Nat.min sLen dLen) (hpos : 0 < cs.length → dp = some ⟨g, o, none⟩ ∧ sp = some ad)
    (hsrc : ∀ j v, cs[j]? = some v → w.cell? (ad.add j) = some v) (hfit : o + cs.length ≤ cur.length) (h1 : ∀ v ∈ cs, v.oneCell' = true)
    (h : ∀ w', PutB w w' g t (splice cur o cs) → K (a.put op.dst (goInt cs.length)) w') : op.wp P a w K Q := by
  rcases Nat.eq_zero_or_pos cs.length with h0 | h0
  · obtain rfl := List.eq_nil_of_length_eq_zero h0
    have hrun := run_copy_none (P := P) w dT sT op.type elem dp sp dLen dCap sLen sCap hu hsz (by rw [← hn]; rfl)
    have hk := h w (by rw [show splice cur o [] = cur by simp [splice]]; exact PutB.refl hg)
    unfold Oper.wp
    simp [execOp, ho, resolve, invoke, builtin, hd, hs, hrun, Result.andThen]
    exact hk
  · obtain ⟨rfl, rfl⟩ := hpos h0
    have hrun := run_copy_row (P := P) w dT sT op.type elem g o dLen dCap ad sLen sCap cur.toArray t cs hu hsz hg hn hsrc (by simpa using hfit) h1
    have hk := h (w.setRow g (splice cur o cs).toArray) (PutB.setRow hg _)
    unfold Oper.wp
    simp [execOp, ho, resolve, invoke, builtin, hd, hs, hrun, Result.andThen]
    unfold splice at hk
    exact hk
theorem rowsB_open {w : World} {base : Nat} {v : Value} {n : Nat} {Ls : List (List UInt8)} (h : RowsB w base v n Ls) (hp : 0 < n) :
    ∃ g cap us rest, v = .slice (some ⟨g, 0, none⟩) n cap ∧ base ≤ g ∧ At w g 22 (us ++ rest) ∧ us.length = n ∧ cap = n + rest.length ∧ cap ≤ maxLen ∧ ∀ (j : Nat) (u : Value) (L : List UInt8), us[j]? = some u → Ls[j]? = some L → InB w base u L := by
  obtain ⟨vs, h1, h2, h3⟩ := h
  have hl := h1.1
  rcases h1.2 with ⟨-, h0⟩ | ⟨g, cap, cur, rfl, hb, hg, k1, k2, k3, k4⟩
  · omega
  · refine ⟨g, cap, vs, cur.toList.drop n, rfl, hb, ?_, by omega, ?_, k2, h3⟩
    · unfold At
      rw [hg, ← k4, Nat.mul_one, List.take_append_drop]
    · rw [List.length_drop, Array.length_toList]; omega
theorem rowsB_mk {w : World} {base g n cap : Nat} {us rest : List Value} {Ls : List (List UInt8)} (hb : base ≤ g) (hg : At w g 22 (us ++ rest)) (hn : us.length = n) (hc : cap = n + rest.length) (hm : cap ≤ maxLen) (hl : us.length = Ls.length)
    (hi : ∀ (j : Nat) (u : Value) (L : List UInt8), us[j]? = some u → Ls[j]? = some L → InB w base u L) : RowsB w base (.slice (some ⟨g, 0, none⟩) n cap) n Ls := by
  refine ⟨us, ⟨by omega, .inr ⟨g, cap, (us ++ rest).toArray, rfl, hb, hg, by omega, hm, by simp; omega, ?_⟩⟩, hl, hi⟩
  show (us ++ rest).take (n * 1) = us
  rw [Nat.mul_one, ← hn, List.take_append_of_le_length (Nat.le_refl _), List.take_length]
theorem insR_eq (A : List (List UInt8)) (x : List UInt8) (p : Nat) (h : posR A x A.length = p) : insR A x = A.take p ++ x :: A.drop p := by unfold insR; rw [h]
theorem posR_step (A : List (List UInt8)) (x : List UInt8) (k : Nat) : posR A x (k + 1) = if 0 < cmpB (A.getD k []) x then posR A x k else k + 1 := rfl
/-- append of a nil slice. -/
theorem wpList_appNil {P : Program} {w : World} {ops : Array Oper} {rest : List Oper} {o : Oper} {a : Act} {Q : Exit → Act → World → Prop} (hgd : o.guard = none) (s x : Operand) (t : TypeId)
    (ho : o.op = .call { callee := .builtin .append, args := #[s, x], argTypes := #[t, t] }) (base : Nat) (ht : P.underlying t = some (.slice 22))
    (hi : (P.info? 22).map (fun i => (i.zero, i.size, i.bytes)) = some (some (.slice none 0 0), 1, 24)) (v : Value) (n : Nat) (Ls : List (List UInt8)) (hs : a.eval s = v) (hown : RowsB w base v n Ls)
    (b : Nat) (hx : a.eval x = .slice (some ⟨b, 0, none⟩) 1 1) (hc : w.cell? ⟨b, 0, none⟩ = some (.slice none 0 0)) (hmax : n ≤ 1000000) (hbase : base ≤ w.heap.size)
    (h : ∀ w' g cap us rs, base ≤ g → At w' g 22 (us ++ .slice none 0 0 :: rs) → us.length = n → cap = n + 1 + rs.length → cap ≤ maxLen → (∀ (j : Nat) (u : Value) (L : List UInt8), us[j]? = some u → Ls[j]? = some L → InB w' base u L) → (∀ W, Below base W w → Below base W w') → w.heap.size ≤ w'.heap.size → wpList P ops Q rest (a.put o.dst (.slice (some ⟨g, 0, none⟩) (n + 1) cap)) w') : wpList P ops Q (o :: rest) a w := by
  obtain ⟨i, hi1, hz0, hz1, hz2⟩ := info_parts hi
  have hnl := hown.length
  obtain ⟨vs, h1, h2, h3⟩ := hown
  refine wpList_append_own w hgd s x t ho base 22 i (.slice none 0 0) 1 24 ht hi1 hz0 hz1 hz2 rfl (by omega) v n vs hs h1 ⟨b, 0, none⟩ 1 1 [.slice none 0 0] hx rfl ?_ ?_ (by simp only [maxLen]; omega) (by omega) hbase ?_
  · intro j u' hj
    have : j = 0 := by have := (List.getElem?_eq_some_iff.1 hj).1; simp at this; omega
    subst this
    simp at hj
    subst hj
    rw [add_plain']
    exact hc
  · intro u' hu'
    simp at hu'
    subst hu'
    rfl
  · intro v' w' o1 g1 _
    have hat := ownsRow.at_ h1
    have keepB : ∀ u L, InB w base u L → InB w' base u L := fun u L hI => by
      obtain ⟨g, cap, r, rfl, k1, k2⟩ := hI
      refine ⟨g, cap, r, rfl, k1, k2.grown g1 fun e => ?_⟩
      obtain ⟨ds, hd⟩ := hat g e.symm
      have := k2.type hd
      revert this
      decide
    rcases o1.2 with ⟨-, h0⟩ | ⟨g, cap, cur, rfl, hb, hg, k1, k2, k3, k4⟩
    · omega
    · have hrl : (cur.toList.drop (n + 1)).length = cap - (n + 1) := by rw [List.length_drop, Array.length_toList]; omega
      refine h w' g cap vs (cur.toList.drop (n + 1)) hb ?_ (by omega) (by omega) k2 (fun j u L hu hL => keepB _ _ (h3 j u L hu hL)) (fun W hW => hW.grown g1 hbase (fun k hk => (h1.lt k hk).1)) g1.size
      unfold At
      rw [hg, show vs ++ Value.slice none 0 0 :: cur.toList.drop (n + 1) = (vs ++ [Value.slice none 0 0]) ++ cur.toList.drop (n + 1) by simp, ← k4, Nat.mul_one, List.take_append_drop]
theorem splice_ins (us rs : List Value) (z : Value) (p : Nat) (hp : p ≤ us.length) : ∃ mid, splice (us ++ z :: rs) (p + 1) (us.drop p) = us.take p ++ mid :: (us.drop p ++ rs) := by
  have hl : p < (us ++ z :: rs).length := by simp; omega
  refine ⟨(us ++ z :: rs)[p], ?_⟩
  unfold splice
  rw [List.take_succ_eq_append_getElem hl, List.take_append_of_le_length hp, show p + 1 + (us.drop p).length = us.length + 1 by rw [List.length_drop]; omega, List.drop_append, List.drop_eq_nil_of_le (show us.length ≤ us.length + 1 by omega)]
  simp
theorem set_ins (us rs : List Value) (mid x : Value) (p : Nat) (hp : p ≤ us.length) : (us.take p ++ mid :: (us.drop p ++ rs)).set p x = (us.take p ++ x :: us.drop p) ++ rs := by
  rw [List.set_append_right _ _ (by rw [List.length_take]; omega), List.length_take, Nat.min_eq_left hp, Nat.sub_self]
  simp
theorem ins_get {α : Type} (us : List α) (x : α) (p : Nat) (hp : p ≤ us.length) (j : Nat) : (us.take p ++ x :: us.drop p)[j]? = if j < p then us[j]? else if j = p then some x else us[j - 1]? := by
  have hl : (us.take p).length = p := by rw [List.length_take]; omega
  by_cases h1 : j < p
  · rw [if_pos h1, List.getElem?_append_left (by omega), List.getElem?_take_of_lt h1]
  · rw [if_neg h1, List.getElem?_append_right (by omega), hl]
    by_cases h2 : j = p
    · rw [if_pos h2, h2, Nat.sub_self]; rfl
    · rw [if_neg h2]
      obtain ⟨i, hi⟩ : ∃ i, j - p = i + 1 := ⟨j - p - 1, by omega⟩
      rw [hi, List.getElem?_cons_succ, List.getElem?_drop]
      congr 1
      omega
theorem ins_rel {R : Value → List UInt8 → Prop} (us : List Value) (S : List (List UInt8)) (x : Value) (L : List UInt8) (p : Nat) (hl : us.length = S.length) (hp : p ≤ us.length)
    (h : ∀ (j : Nat) (u : Value) (X : List UInt8), us[j]? = some u → S[j]? = some X → R u X) (hx : R x L) : ∀ (j : Nat) (u : Value) (X : List UInt8), (us.take p ++ x :: us.drop p)[j]? = some u → (S.take p ++ L :: S.drop p)[j]? = some X → R u X := fun j u X h1 h2 => by
  rw [ins_get us x p hp] at h1
  rw [ins_get S L p (by omega)] at h2
  by_cases c1 : j < p
  · rw [if_pos c1] at h1 h2; exact h j u X h1 h2
  · rw [if_neg c1] at h1 h2
    by_cases c2 : j = p
    · rw [if_pos c2] at h1 h2
      injection h1 with h1
      injection h2 with h2
      rw [← h1, ← h2]; exact hx
    · rw [if_neg c2] at h1 h2; exact h _ u X h1 h2
def SoC (g k cap J : Nat) (JI : Int) (q : Nat) (x : Value) : Prop :=
  match q with
  | 0 => x = .slice (some ⟨g, 0, none⟩) (k + 1) cap
  | 1 => x = .int .i64 JI
  | 2 => x = .int .i64 (JI + 1)
  | 3 => ∃ dp l c, x = .slice dp l c ∧ l = k - J ∧ (0 < k - J → dp = some ⟨g, J + 1, none⟩)
  | 4 => x = .slice (some ⟨g, 0, none⟩) (k + 1) cap
  | 5 => x = .int .i64 JI
  | 6 => ∃ l c, x = .slice (some ⟨g, J, none⟩) l c ∧ l = k + 1 - J
  | _ => True
def SoS (Z0 Z1 : List Value) (d : Bool) : List Value := if d = true then Z1 else Z0
set_option maxRecDepth 100000 in
set_option maxHeartbeats 4000000 in
theorem sorted_any (Ls : List (List UInt8)) (n : Nat) (hl : Ls.length = n) (hn : n ≤ 12) (h12 : ∀ L ∈ Ls, L.length = 12) (A : Option Addr) (c : Nat) (w : World) (hT : LstB w A Ls) :
    Calls Try.prog 28 #[.slice A n c] w fun e w' => ∃ v, e = .returned v ∧ RowsB w' w.heap.size v n (sortB Ls) ∧ Below w.heap.size w w' := by
  have HL := Lib.hid hl
  have HT := Lib.hid hT
  have H12 := Lib.hid h12
  have ni : (n : Int) ≤ 12 := by omega
  have R0 := Lib.hid (RowsB.empty w w.heap.size (Nat.le_refl _))
  have B0 := Lib.hid (show Below w.heap.size w (w.alloc (.cells #[] 22)) from (Below.refl _ _).alloc (Nat.le_refl _) _)
  clear hl hT h12
  go_enter Try.func28, Try.ntmps28
  go_wp2
  go_loopw [3, 10] (fun v i wr => ∃ k : Nat, k ≤ n ∧ i = .int .i64 k ∧ RowsB wr w.heap.size v k (sortB (Ls.take k)) ∧ Below w.heap.size w wr) (fun _ i _ => n - (intOf i).toNat)
  case atStart => exact ⟨0, by omega, rfl, R0.out, B0.out⟩
  case round =>
    obtain ⟨wo, rfl⟩ : ∃ x, x = wr := ⟨wr, rfl⟩
    obtain ⟨k, hk, rfl, hrow, hbel⟩ := hrel
    have HR := Lib.hid hrow
    have HB := Lib.hid hbel
    by_cases hlt : k < n
    · have lk : k < Ls.length := by rw [HL.out]; exact hlt
      obtain ⟨eL, lL⟩ := getD_12 H12.out lk
      obtain ⟨L, hL⟩ : ∃ L, L = Ls.getD k [] := ⟨_, rfl⟩
      rw [← hL] at eL lL
      have TS := Lib.hid (sortB_take Ls k L eL)
      obtain ⟨b, off, hTe, hlb, hcell⟩ := HT.out (by omega)
      subst hTe
      obtain ⟨A', c', cx0, by0⟩ := hcell k L eL
      rw [lL] at cx0
      have cx : wo.cell? ⟨b, off + k, none⟩ = some (.slice A' 12 c') := (HB.out.cell (p := ⟨b, off + k, none⟩) hlb).trans cx0
      have by1 := by0.below HB.out (Nat.le_refl _)
      have BYW := Lib.hid by0
      clear cx0 by0
      have BY := Lib.hid by1
      have LL := Lib.hid lL
      obtain ⟨S, hS⟩ : ∃ S, S = sortB (Ls.take k) := ⟨_, rfl⟩
      have LS := Lib.hid (show S.length = k by rw [hS]; exact sortB_length Ls k (by omega))
      have S12 := Lib.hid (show ∀ L ∈ S, L.length = 12 by rw [hS]; exact fun X hX => H12.out X (sortB_mem Ls k (by omega) X hX))
      rw [← hS] at TS HR
      obtain ⟨A3, c3, rfl⟩ := hrow.slice
      have q1 : (k : Int) < (n : Int) := by omega
      have q2 : (k : Int) ≤ 12 := by omega
      clear hS hL eL lL hcell by1 lk hrow hbel
      go_wp2
      go_loopw [6] (fun i wr2 => ∃ j : Nat, j ≤ k ∧ i = .int .i64 j ∧ posR S L j = posR S L k ∧ ∃ m, wr2 = wo.drewN m) (fun i _ => (intOf i).toNat)
      case atStart => exact ⟨k, Nat.le_refl _, rfl, rfl, 0, rfl⟩
      case round =>
        obtain ⟨j, hj, rfl, hpos, m, hwr⟩ := hrel
        have HW := Lib.hid hwr
        have HPO := Lib.hid hpos
        clear hwr hpos
        by_cases hj0 : 0 < j
        · obtain ⟨i, hji⟩ : ∃ i, j = i + 1 := ⟨j - 1, by omega⟩
          obtain ⟨b3, cap3, hv3, hb3, hc3⟩ := HR.out.cell (by omega)
          injection hv3 with hA3 _ hcc
          subst hA3
          subst hcc
          obtain ⟨eX, lX⟩ := getD_12 S12.out (i := i) (by have := LS.out; omega)
          obtain ⟨X, hX⟩ : ∃ X, X = S.getD i [] := ⟨_, rfl⟩
          have hps := posR_step S L i
          rw [← hX] at eX lX hps
          obtain ⟨u, cu, iu⟩ := hc3 i X eX
          obtain ⟨g1, p1, rfl, -, -, y1⟩ := iu.byt
          rw [lX] at cu
          have cu' : wr.cell? ⟨b3, i, none⟩ = some (.slice (some ⟨g1, 0, none⟩) 12 p1) := by rw [HW.out]; exact cu
          obtain ⟨r, hr⟩ : ∃ r, r = cmpB X L := ⟨_, rfl⟩
          rw [← hr, ← hji] at hps
          have CC := Lib.hid (show Calls Try.prog 22 #[.slice (some ⟨g1, 0, none⟩) 12 p1, .slice A' 12 c'] wr (CmpPost r wr) by
            rw [hr, HW.out]; exact compare_any _ _ 12 p1 c' X L lX LL.out (by omega) _ (y1.drewN m) (BY.out.drewN m))
          have q3 : (i : Int) < (k : Int) := by omega
          have q4 : IntKind.i64.wrap (i : Int) = (i : Int) := Go.IntWalk.i64_in _ (by omega)
          have q5 : (j : Int) - 1 = (i : Int) := by omega
          have q6 : (0 : Int) < (j : Int) := by omega
          have q8 : IntKind.i64.wrap ((j : Int) + 1) = (j : Int) + 1 := Go.IntWalk.i64_in _ (by omega)
          have HJI := Lib.hid hji
          clear hc3 hb3 eX lX hX cu iu y1 hr hji
          by_cases hgt : 0 < r
          · rw [if_pos hgt] at hps
            have HPS := Lib.hid hps
            have t1 : decide (0 < r) = true := decide_eq_true hgt
            clear hps
            go_wp2_with (go_at_call 22; refine (CC.out).mono ?_; rintro e w9 ⟨rfl, hq⟩; have W9 := Lib.hid hq; clear hq)
            obtain ⟨q9, rfl⟩ := W9.out
            refine ⟨⟨i, by have := HJI.out; omega, rfl, by rw [← HPO.out, HPS.out], by rw [HW.out]; exact drewN2 _ _ _⟩, by have := HJI.out; simp [intOf]; omega⟩
          · rw [if_neg hgt] at hps
            obtain ⟨J, hJ⟩ : ∃ J : Nat, J = j := ⟨j, rfl⟩
            have HPQ := Lib.hid (show posR S L k = J by rw [hJ, ← HPO.out, hps, HJI.out])
            have t1 : decide (0 < r) = false := decide_eq_false hgt
            have t2 : ¬ (0 < r) := hgt
            have HJ := Lib.hid hJ
            clear hps hgt hJ
            go_wp2_with (first
              | (go_at_call 22; refine (CC.out).mono ?_; rintro e w9 ⟨rfl, hq⟩; have W9 := Lib.hid hq; clear hq
                 have RX := Lib.hid (show RowsB w9 w.heap.size (.slice (some ⟨b3, 0, none⟩) k c3) k S from by obtain ⟨q9, rfl⟩ := W9.out; rw [HW.out]; exact HR.out)
                 have BX := Lib.hid (show Below w.heap.size w w9 from by obtain ⟨q9, rfl⟩ := W9.out; rw [HW.out]; exact below_drewN (below_drewN HB.out _) _)
                 have YX := Lib.hid (show Byt w9 A' L from by obtain ⟨q9, rfl⟩ := W9.out; rw [HW.out]; exact (BY.out.drewN _).drewN _)
                 have AX := Lib.hid (show Below w9.heap.size w9 (w9.alloc (.cells #[.slice none 0 0] 22)) from (Below.refl _ _).alloc (Nat.le_refl _) _)
                 have RX2 := Lib.hid (RX.out.below AX.out)
                 have BX2 := Lib.hid (BX.out.trans (AX.out.mono BX.out.size))
                 have CX2 := Lib.hid (show (w9.alloc (.cells #[.slice none 0 0] 22)).cell? ⟨w9.heap.size, 0, none⟩ = some (.slice none 0 0) from (NewB.alloc w9 22 [.slice none 0 0]).at_.cell 0 (by simp)))
              | (refine wpList_appNil rfl (.tmp 30) (.tmp 31) 33 rfl w.heap.size Try.underlying33 Try.infoS _ k S (by rfl) RX2.out w9.heap.size (by rfl) CX2.out (by omega) BX2.out.size ?_))
            intro w20 g cap us rs hbg hat hus hcap hmx hin hbel hsz
            have US := Lib.hid (show us.length = k from hus)
            have HAT := Lib.hid hat
            have HBG := Lib.hid hbg
            have HCAP := Lib.hid hcap
            have HMX := Lib.hid hmx
            have HIN := Lib.hid hin
            have B20 := Lib.hid (hbel _ BX2.out)
            have Y20 := Lib.hid (show Byt w20 A' L from BYW.out.below (hbel _ BX2.out) (Nat.le_refl _))
            clear hus hat hbg hmx hin hbel hsz hcap
            go_wp2_with fail
            have HJK := Lib.hid (show J ≤ k by have := HJ.out; omega)
            have HPJ := Lib.hid (show posR S L S.length = J by rw [LS.out]; exact HPQ.out)
            have HONE := Lib.hid (show ∀ x ∈ us, x.oneCell' = true from fun x hx => by
              obtain ⟨q, hq, rfl⟩ := List.mem_iff_getElem.1 hx
              obtain ⟨gx, cx, rx, hxe, -⟩ := HIN.out q us[q] (S.getD q []) (by simp [hq]) (getD_12 S12.out (by have := US.out; have := LS.out; omega)).1
              rw [hxe]
              rfl)
            have n1 : ¬ cap = j := by have := HJ.out; have := HJK.out; have := HCAP.out; omega
            have n2 : (j : Int) ≤ (k : Int) + 1 := by omega
            have n3 : (j : Int) + 1 ≤ (k : Int) + 1 := by omega
            refine wp_region_rj (fun v => ⟨#[Value.slice (some { block := b, off := off }) n c, undef, Value.slice none 0 0, Value.slice (some { block := g, off := 0 }) (k + 1) cap, undef, Value.slice A' 12 c', Value.int IntKind.i64 (j : Int), Value.slice (some { block := w.heap.size, off := 0 }) 0 0, Value.slice (some { block := b, off := off }) n c, Value.int IntKind.i64 (n : Int), Value.int IntKind.i64 (k : Int), Value.bool true, Value.pointer (some { block := b, off := off + k }), Value.slice A' 12 c', Value.slice (some { block := b3, off := 0 }) k c3, Value.int IntKind.i64 (k : Int), Value.int IntKind.i64 (j : Int), Value.bool true, Value.bool true, Value.slice (some { block := b3, off := 0 }) k c3, Value.int IntKind.i64 (j : Int), Value.int IntKind.i64 (i : Int), Value.pointer (some { block := b3, off := i }), Value.slice (some { block := g1, off := 0 }) 12 p1, Value.slice A' 12 c', Value.int IntKind.i64 r, Value.bool false, Value.bool false, u28, u29, Value.slice (some { block := b3, off := 0 }) k c3, Value.slice (some { block := w9.heap.size, off := 0 }) 1 1, Value.slice (some { block := g, off := 0 }) (k + 1) cap, v 0, v 1, v 2, v 3, v 4, v 5, v 6, v 7, u41, u42, u43, u44, u45, u46, u47, undef], []⟩)
                (SoC g k cap J (j : Int)) (fun d u => PutB w20 u g 22 (SoS (us ++ .slice none 0 0 :: rs) (splice (us ++ .slice none 0 0 :: rs) (J + 1) (us.drop J)) d)) 7
                (fun q => if q = 0 then u33 else if q = 1 then u34 else if q = 2 then u35 else if q = 3 then u36 else if q = 4 then u37 else if q = 5 then u38 else if q = 6 then u39 else u40) [0, 1, 2, 3, 4, 5, 6, 7] (by kernel_rfl) (by kernel_rfl) (by kernel_rfl) (of_decide_eq_true (by kernel_rfl)) rfl ?_ ?_ ?_
            · exact (PutB.refl HAT.out).drew
            · refine AllI.cons ?_ (AllI.cons ?_ (AllI.cons ?_ (AllI.cons ?_ (AllI.cons ?_ (AllI.cons ?_ (AllI.cons ?_ (AllI.cons ?_ AllI.nil)))))))
              · refine stepRJ [] rfl rfl rfl (by kernel_rfl) fun d v u hv hS K hK => ?_
                clear hS
                go_simp
                exact hK.out _ _ (by simp [upd]; try rfl) rfl
              · refine stepRJ [] rfl rfl rfl (by kernel_rfl) fun d v u hv hS K hK => ?_
                clear hS
                go_simp
                exact hK.out _ _ (by simp [upd]; try rfl) rfl
              · refine stepRJ [1] rfl rfl rfl (by kernel_rfl) fun d v u hv hS K hK => ?_
                clear hS
                have e1 := hv 1 rfl
                simp only [SoC] at e1
                go_simp
                exact hK.out _ _ (by simp [upd, e1]; try rfl) rfl
              · refine stepRJ [0, 2] rfl rfl rfl (by kernel_rfl) fun d v u hv hS K hK => ?_
                clear hS
                have e0 := hv 0 rfl
                simp only [SoC] at e0
                have e2 := hv 2 rfl
                simp only [SoC] at e2
                go_simp
                exact hK.out _ (.slice (if cap = j + 1 then some ⟨g, 0, none⟩ else some ⟨g, j + 1, none⟩) (k + 1 - (j + 1)) (cap - (j + 1))) (by simp [upd, e0, e2]; try rfl) ⟨_, _, _, rfl, by have := HJ.out; omega, fun h => by rw [if_neg (by have := HJ.out; have := HCAP.out; omega), HJ.out]⟩
              · refine stepRJ [] rfl rfl rfl (by kernel_rfl) fun d v u hv hS K hK => ?_
                clear hS
                go_simp
                exact hK.out _ _ (by simp [upd]; try rfl) rfl
              · refine stepRJ [] rfl rfl rfl (by kernel_rfl) fun d v u hv hS K hK => ?_
                clear hS
                go_simp
                exact hK.out _ _ (by simp [upd]; try rfl) rfl
              · refine stepRJ [4, 5] rfl rfl rfl (by kernel_rfl) fun d v u hv hS K hK => ?_
                clear hS
                have e4 := hv 4 rfl
                simp only [SoC] at e4
                have e5 := hv 5 rfl
                simp only [SoC] at e5
                go_simp
                exact hK.out _ (.slice (some ⟨g, j, none⟩) (k + 1 - j) (cap - j)) (by simp [upd, e4, e5]; try rfl) ⟨_, _, by rw [HJ.out], by have := HJ.out; omega⟩
              · refine stepRJc [3, 6] rfl rfl (by kernel_rfl) fun v u hv hS K hK => ?_
                obtain ⟨dp, l3, c3', e3, hl3, hd3⟩ := hv 3 rfl
                obtain ⟨l6, c6', e6, hl6⟩ := hv 6 rfl
                have hUS := US.out
                refine wp_copyR (.tmp 36) (.tmp 39) 33 33 rfl 22 Try.underlying33 Try.sizeS dp (some ⟨g, J, none⟩) l3 c3' l6 c6' (by simp [Act.eval, e3]) (by simp [Act.eval, e6]) g (J + 1) ⟨g, J, none⟩ 22 _ (us.drop J) hS.at_ (by rw [List.length_drop, hUS, hl3, hl6]; show _ = min _ _; omega) (fun h => ⟨hd3 (by rw [List.length_drop, hUS] at h; exact h), rfl⟩) ?_ (by show J + 1 + (us.drop J).length ≤ (us ++ Value.slice none 0 0 :: rs).length; simp; have := HJK.out; omega) (fun v hv => HONE.out v (List.mem_of_mem_drop hv)) ?_
                · intro q x hq
                  rw [add_plain']
                  exact At.rangeM (cs := us ++ Value.slice none 0 0 :: rs) hS.at_ J (by rw [List.drop_append_of_le_length (by have := HJK.out; omega), List.take_append_of_le_length (Nat.le_refl _), List.take_length]) q x hq
                · intro w' hp
                  exact hK.out _ (goInt (us.drop J).length) _ rfl trivial (hS.trans hp)
            · intro v u21 hv hS
              obtain ⟨mid, hmid⟩ := splice_ins us rs (.slice none 0 0) J (by have := HJK.out; have := US.out; omega)
              have A21 := Lib.hid (show At u21 g 22 (us.take J ++ mid :: (us.drop J ++ rs)) from hmid ▸ hS.at_)
              have B21 := Lib.hid (hS.below B20.out B20.out.size HBG.out)
              have Y21 := Lib.hid (BYW.out.below B21.out (Nat.le_refl _))
              have I21 := Lib.hid (fun (q : Nat) (x : Value) (X : List UInt8) h1 h2 => (HIN.out q x X h1 h2).grown hS.grown HAT.out (by decide))
              have HOE := Lib.hid (own_empty u21 5 u21.heap.size (Nat.le_refl _))
              have HBy := Lib.hid (Y21.out.below (B := u21.heap.size) ((Below.refl _ _).alloc (Nat.le_refl _) (.cells #[] 5)) (Nat.le_refl _))
              have HA' := Lib.hid (show A' = none → c' = 0 from fun h => by
                obtain ⟨b', o', e, -⟩ := BYW.out (by rw [LL.out]; omega)
                rw [h] at e
                cases e)
              clear hmid hS hv
              go_wp2_with (refine wpList_appB rfl (.tmp 43) (.tmp 44) 22 rfl u21.heap.size 5 Try.underlying22 Try.info8 _ 0 [] (by rfl) HOE.out A' 12 c' L (by rfl) HBy.out LL.out HA'.out (by omega) (by simp) ?_)
              intro v22 w22 h22 g22
              have B22 := Lib.hid (show Below u21.heap.size u21 w22 from ((Below.refl _ _).alloc (Nat.le_refl _) _).grown g22 (by simp) (by simp [Value.ownBlock]))
              obtain ⟨-, g7, cap7, r7, e1, e2, e3⟩ := own_at (bs := L) h22 (by omega)
              subst e1
              have I22 := Lib.hid (show InB w22 w.heap.size (.slice (some ⟨g7, 0, none⟩) 12 cap7) L from ⟨g7, cap7, r7, by rw [LL.out], Nat.le_trans B21.out.size e2, e3⟩)
              clear e2 e3 h22 g22
              have A22 := Lib.hid (A21.out.below B22.out A21.out.lt)
              have C22 := Lib.hid (B21.out.trans (B22.out.mono B21.out.size))
              have II22 := Lib.hid (fun (q : Nat) (x : Value) (X : List UInt8) h1 h2 => (I21.out q x X h1 h2).below B22.out)
              have JL := Lib.hid (show (us.take J).length = J by rw [List.length_take]; have := HJK.out; have := US.out; omega)
              have cg : w22.cell? ⟨g, j, none⟩ = some mid := by
                have h := A22.out.cell J (by rw [List.length_append, JL.out, List.length_cons]; omega)
                rw [List.getElem_append_right (by rw [JL.out]; exact Nat.le_refl _)] at h
                simp only [JL.out, Nat.sub_self, List.getElem_cons_zero] at h
                rw [HJ.out] at h
                exact h
              have fg : w22.frozen? ⟨g, j, none⟩ = false := A22.out.frozen _
              have P23 := Lib.hid (PutB.setCell A22.out J (.slice (some ⟨g7, 0, none⟩) 12 cap7))
              have A23 := Lib.hid (show At (w22.setCell ⟨g, J, none⟩ (.slice (some ⟨g7, 0, none⟩) 12 cap7)) g 22 ((us.take J ++ .slice (some ⟨g7, 0, none⟩) 12 cap7 :: us.drop J) ++ rs) from by
                have h := P23.out.at_
                rw [set_ins us rs mid _ J (by have := HJK.out; have := US.out; omega)] at h
                exact h)
              have R23 := Lib.hid (show RowsB (w22.setCell ⟨g, j, none⟩ (.slice (some ⟨g7, 0, none⟩) 12 cap7)) w.heap.size (.slice (some ⟨g, 0, none⟩) (k + 1) cap) (k + 1) (sortB (Ls.take (k + 1))) from by
                have hUS := US.out
                have hLS := LS.out
                have hJK := HJK.out
                have h : RowsB (w22.setCell ⟨g, J, none⟩ (.slice (some ⟨g7, 0, none⟩) 12 cap7)) w.heap.size (.slice (some ⟨g, 0, none⟩) (k + 1) cap) (k + 1) (sortB (Ls.take (k + 1))) := by
                  rw [TS.out, insR_eq S L J HPJ.out]
                  refine rowsB_mk HBG.out A23.out (by simp; omega) HCAP.out HMX.out (by simp; omega) ?_
                  exact ins_rel (R := fun x X => InB (w22.setCell ⟨g, J, none⟩ (.slice (some ⟨g7, 0, none⟩) 12 cap7)) w.heap.size x X) us S _ L J (by omega) (by omega) (fun q x X h1 h2 => (II22.out q x X h1 h2).grown P23.out.grown A22.out (by decide)) (I22.out.grown P23.out.grown A22.out (by decide))
                rw [HJ.out] at h
                exact h)
              have D23 := Lib.hid (show Below w.heap.size w (w22.setCell ⟨g, j, none⟩ (.slice (some ⟨g7, 0, none⟩) 12 cap7)) from by
                have h := P23.out.below C22.out C22.out.size HBG.out
                rw [HJ.out] at h
                exact h)
              clear A23 P23 II22 I22
              go_wp2
              go_roundw
              case rel => exact ⟨k + 1, by omega, by go_num, R23.out, D23.out⟩
              case measure => simp [intOf]; omega
        · have hj0' : j = 0 := by omega
          obtain ⟨J, hJ⟩ : ∃ J : Nat, J = j := ⟨j, rfl⟩
          have HPQ := Lib.hid (show posR S L k = J by rw [hJ, ← HPO.out, hj0']; rfl)
          have HJ := Lib.hid (show J = 0 by rw [hJ, hj0'])
          clear hJ
          have q6 : ¬ ((0 : Int) < (j : Int)) := by omega
          have q7 : decide ((0 : Int) < (j : Int)) = false := decide_eq_false q6
          have RX := Lib.hid (show RowsB wr w.heap.size (.slice A3 k c3) k S from by rw [HW.out]; exact HR.out)
          have BX := Lib.hid (show Below w.heap.size w wr from by rw [HW.out]; exact below_drewN HB.out _)
          have YX := Lib.hid (show Byt wr A' L from by rw [HW.out]; exact BY.out.drewN _)
          have AX := Lib.hid (show Below wr.heap.size wr (wr.alloc (.cells #[.slice none 0 0] 22)) from (Below.refl _ _).alloc (Nat.le_refl _) _)
          have RX2 := Lib.hid (RX.out.below AX.out)
          have BX2 := Lib.hid (BX.out.trans (AX.out.mono BX.out.size))
          have CX2 := Lib.hid (show (wr.alloc (.cells #[.slice none 0 0] 22)).cell? ⟨wr.heap.size, 0, none⟩ = some (.slice none 0 0) from (NewB.alloc wr 22 [.slice none 0 0]).at_.cell 0 (by simp))
          go_wp2_with (refine wpList_appNil rfl (.tmp 30) (.tmp 31) 33 rfl w.heap.size Try.underlying33 Try.infoS _ k S (by rfl) RX2.out wr.heap.size (by rfl) CX2.out (by omega) BX2.out.size ?_)
          intro w20 g cap us rs hbg hat hus hcap hmx hin hbel hsz
          have US := Lib.hid (show us.length = k from hus)
          have HAT := Lib.hid hat
          have HBG := Lib.hid hbg
          have HCAP := Lib.hid hcap
          have HMX := Lib.hid hmx
          have HIN := Lib.hid hin
          have B20 := Lib.hid (hbel _ BX2.out)
          have Y20 := Lib.hid (show Byt w20 A' L from BYW.out.below (hbel _ BX2.out) (Nat.le_refl _))
          clear hus hat hbg hmx hin hbel hsz hcap
          go_wp2_with fail
          have HJK := Lib.hid (show J ≤ k by have := HJ.out; omega)
          have HPJ := Lib.hid (show posR S L S.length = J by rw [LS.out]; exact HPQ.out)
          have HONE := Lib.hid (show ∀ x ∈ us, x.oneCell' = true from fun x hx => by
            obtain ⟨q, hq, rfl⟩ := List.mem_iff_getElem.1 hx
            obtain ⟨gx, cx, rx, hxe, -⟩ := HIN.out q us[q] (S.getD q []) (by simp [hq]) (getD_12 S12.out (by have := US.out; have := LS.out; omega)).1
            rw [hxe]
            rfl)
          have n1 : ¬ cap = 0 := by have := HJ.out; have := HJK.out; have := HCAP.out; omega
          have n2 : 0 ≤ (k : Int) + 1 := by omega
          have n3 : 1 ≤ (k : Int) + 1 := by omega
          refine wp_region_rj (fun v => ⟨#[Value.slice (some { block := b, off := off }) n c, undef, Value.slice none 0 0, Value.slice (some { block := g, off := 0 }) (k + 1) cap, undef, Value.slice A' 12 c', Value.int IntKind.i64 0, Value.slice (some { block := w.heap.size, off := 0 }) 0 0, Value.slice (some { block := b, off := off }) n c, Value.int IntKind.i64 (n : Int), Value.int IntKind.i64 (k : Int), Value.bool true, Value.pointer (some { block := b, off := off + k }), Value.slice A' 12 c', Value.slice A3 k c3, Value.int IntKind.i64 (k : Int), Value.int IntKind.i64 0, Value.bool false, Value.bool false, undef, undef, undef, undef, undef, undef, undef, undef, Value.bool false, u28, u29, Value.slice A3 k c3, Value.slice (some { block := wr.heap.size, off := 0 }) 1 1, Value.slice (some { block := g, off := 0 }) (k + 1) cap, v 0, v 1, v 2, v 3, v 4, v 5, v 6, v 7, u41, u42, u43, u44, u45, u46, u47, undef], []⟩)
              (SoC g k cap J 0) (fun d u => PutB w20 u g 22 (SoS (us ++ .slice none 0 0 :: rs) (splice (us ++ .slice none 0 0 :: rs) (J + 1) (us.drop J)) d)) 7
              (fun q => if q = 0 then u33 else if q = 1 then u34 else if q = 2 then u35 else if q = 3 then u36 else if q = 4 then u37 else if q = 5 then u38 else if q = 6 then u39 else u40) [0, 1, 2, 3, 4, 5, 6, 7] (by kernel_rfl) (by kernel_rfl) (by kernel_rfl) (of_decide_eq_true (by kernel_rfl)) rfl ?_ ?_ ?_
          · exact (PutB.refl HAT.out).drew
          · refine AllI.cons ?_ (AllI.cons ?_ (AllI.cons ?_ (AllI.cons ?_ (AllI.cons ?_ (AllI.cons ?_ (AllI.cons ?_ (AllI.cons ?_ AllI.nil)))))))
            · refine stepRJ [] rfl rfl rfl (by kernel_rfl) fun d v u hv hS K hK => ?_
              clear hS
              go_simp
              exact hK.out _ _ (by simp [upd]; try rfl) rfl
            · refine stepRJ [] rfl rfl rfl (by kernel_rfl) fun d v u hv hS K hK => ?_
              clear hS
              go_simp
              exact hK.out _ _ (by simp [upd]; try rfl) rfl
            · refine stepRJ [1] rfl rfl rfl (by kernel_rfl) fun d v u hv hS K hK => ?_
              clear hS
              have e1 := hv 1 rfl
              simp only [SoC] at e1
              go_simp
              exact hK.out _ _ (by simp [upd, e1]; try rfl) rfl
            · refine stepRJ [0, 2] rfl rfl rfl (by kernel_rfl) fun d v u hv hS K hK => ?_
              clear hS
              have e0 := hv 0 rfl
              simp only [SoC] at e0
              have e2 := hv 2 rfl
              simp only [SoC] at e2
              go_simp
              exact hK.out _ (.slice (if cap = 0 + 1 then some ⟨g, 0, none⟩ else some ⟨g, 0 + 1, none⟩) (k + 1 - (0 + 1)) (cap - (0 + 1))) (by simp [upd, e0, e2]; try rfl) ⟨_, _, _, rfl, by have := HJ.out; omega, fun h => by rw [if_neg (by have := HJ.out; have := HCAP.out; omega), HJ.out]⟩
            · refine stepRJ [] rfl rfl rfl (by kernel_rfl) fun d v u hv hS K hK => ?_
              clear hS
              go_simp
              exact hK.out _ _ (by simp [upd]; try rfl) rfl
            · refine stepRJ [] rfl rfl rfl (by kernel_rfl) fun d v u hv hS K hK => ?_
              clear hS
              go_simp
              exact hK.out _ _ (by simp [upd]; try rfl) rfl
            · refine stepRJ [4, 5] rfl rfl rfl (by kernel_rfl) fun d v u hv hS K hK => ?_
              clear hS
              have e4 := hv 4 rfl
              simp only [SoC] at e4
              have e5 := hv 5 rfl
              simp only [SoC] at e5
              go_simp
              exact hK.out _ (.slice (some ⟨g, 0, none⟩) (k + 1 - 0) (cap - 0)) (by simp [upd, e4, e5]; try rfl) ⟨_, _, by rw [HJ.out], by have := HJ.out; omega⟩
            · refine stepRJc [3, 6] rfl rfl (by kernel_rfl) fun v u hv hS K hK => ?_
              obtain ⟨dp, l3, c3', e3, hl3, hd3⟩ := hv 3 rfl
              obtain ⟨l6, c6', e6, hl6⟩ := hv 6 rfl
              have hUS := US.out
              refine wp_copyR (.tmp 36) (.tmp 39) 33 33 rfl 22 Try.underlying33 Try.sizeS dp (some ⟨g, J, none⟩) l3 c3' l6 c6' (by simp [Act.eval, e3]) (by simp [Act.eval, e6]) g (J + 1) ⟨g, J, none⟩ 22 _ (us.drop J) hS.at_ (by rw [List.length_drop, hUS, hl3, hl6]; show _ = min _ _; omega) (fun h => ⟨hd3 (by rw [List.length_drop, hUS] at h; exact h), rfl⟩) ?_ (by show J + 1 + (us.drop J).length ≤ (us ++ Value.slice none 0 0 :: rs).length; simp; have := HJK.out; omega) (fun v hv => HONE.out v (List.mem_of_mem_drop hv)) ?_
              · intro q x hq
                rw [add_plain']
                exact At.rangeM (cs := us ++ Value.slice none 0 0 :: rs) hS.at_ J (by rw [List.drop_append_of_le_length (by have := HJK.out; omega), List.take_append_of_le_length (Nat.le_refl _), List.take_length]) q x hq
              · intro w' hp
                exact hK.out _ (goInt (us.drop J).length) _ rfl trivial (hS.trans hp)
          · intro v u21 hv hS
            obtain ⟨mid, hmid⟩ := splice_ins us rs (.slice none 0 0) J (by have := HJK.out; have := US.out; omega)
            have A21 := Lib.hid (show At u21 g 22 (us.take J ++ mid :: (us.drop J ++ rs)) from hmid ▸ hS.at_)
            have B21 := Lib.hid (hS.below B20.out B20.out.size HBG.out)
            have Y21 := Lib.hid (BYW.out.below B21.out (Nat.le_refl _))
            have I21 := Lib.hid (fun (q : Nat) (x : Value) (X : List UInt8) h1 h2 => (HIN.out q x X h1 h2).grown hS.grown HAT.out (by decide))
            have HOE := Lib.hid (own_empty u21 5 u21.heap.size (Nat.le_refl _))
            have HBy := Lib.hid (Y21.out.below (B := u21.heap.size) ((Below.refl _ _).alloc (Nat.le_refl _) (.cells #[] 5)) (Nat.le_refl _))
            have HA' := Lib.hid (show A' = none → c' = 0 from fun h => by
              obtain ⟨b', o', e, -⟩ := BYW.out (by rw [LL.out]; omega)
              rw [h] at e
              cases e)
            clear hmid hS hv
            go_wp2_with (refine wpList_appB rfl (.tmp 43) (.tmp 44) 22 rfl u21.heap.size 5 Try.underlying22 Try.info8 _ 0 [] (by rfl) HOE.out A' 12 c' L (by rfl) HBy.out LL.out HA'.out (by omega) (by simp) ?_)
            intro v22 w22 h22 g22
            have B22 := Lib.hid (show Below u21.heap.size u21 w22 from ((Below.refl _ _).alloc (Nat.le_refl _) _).grown g22 (by simp) (by simp [Value.ownBlock]))
            obtain ⟨-, g7, cap7, r7, e1, e2, e3⟩ := own_at (bs := L) h22 (by omega)
            subst e1
            have I22 := Lib.hid (show InB w22 w.heap.size (.slice (some ⟨g7, 0, none⟩) 12 cap7) L from ⟨g7, cap7, r7, by rw [LL.out], Nat.le_trans B21.out.size e2, e3⟩)
            clear e2 e3 h22 g22
            have A22 := Lib.hid (A21.out.below B22.out A21.out.lt)
            have C22 := Lib.hid (B21.out.trans (B22.out.mono B21.out.size))
            have II22 := Lib.hid (fun (q : Nat) (x : Value) (X : List UInt8) h1 h2 => (I21.out q x X h1 h2).below B22.out)
            have JL := Lib.hid (show (us.take J).length = J by rw [List.length_take]; have := HJK.out; have := US.out; omega)
            have cg : w22.cell? ⟨g, 0, none⟩ = some mid := by
              have h := A22.out.cell J (by rw [List.length_append, JL.out, List.length_cons]; omega)
              rw [List.getElem_append_right (by rw [JL.out]; exact Nat.le_refl _)] at h
              simp only [JL.out, Nat.sub_self, List.getElem_cons_zero] at h
              rw [HJ.out] at h
              exact h
            have fg : w22.frozen? ⟨g, 0, none⟩ = false := A22.out.frozen _
            have P23 := Lib.hid (PutB.setCell A22.out J (.slice (some ⟨g7, 0, none⟩) 12 cap7))
            have A23 := Lib.hid (show At (w22.setCell ⟨g, J, none⟩ (.slice (some ⟨g7, 0, none⟩) 12 cap7)) g 22 ((us.take J ++ .slice (some ⟨g7, 0, none⟩) 12 cap7 :: us.drop J) ++ rs) from by
              have h := P23.out.at_
              rw [set_ins us rs mid _ J (by have := HJK.out; have := US.out; omega)] at h
              exact h)
            have R23 := Lib.hid (show RowsB (w22.setCell ⟨g, 0, none⟩ (.slice (some ⟨g7, 0, none⟩) 12 cap7)) w.heap.size (.slice (some ⟨g, 0, none⟩) (k + 1) cap) (k + 1) (sortB (Ls.take (k + 1))) from by
              have hUS := US.out
              have hLS := LS.out
              have hJK := HJK.out
              have h : RowsB (w22.setCell ⟨g, J, none⟩ (.slice (some ⟨g7, 0, none⟩) 12 cap7)) w.heap.size (.slice (some ⟨g, 0, none⟩) (k + 1) cap) (k + 1) (sortB (Ls.take (k + 1))) := by
                rw [TS.out, insR_eq S L J HPJ.out]
                refine rowsB_mk HBG.out A23.out (by simp; omega) HCAP.out HMX.out (by simp; omega) ?_
                exact ins_rel (R := fun x X => InB (w22.setCell ⟨g, J, none⟩ (.slice (some ⟨g7, 0, none⟩) 12 cap7)) w.heap.size x X) us S _ L J (by omega) (by omega) (fun q x X h1 h2 => (II22.out q x X h1 h2).grown P23.out.grown A22.out (by decide)) (I22.out.grown P23.out.grown A22.out (by decide))
              rw [HJ.out] at h
              exact h)
            have D23 := Lib.hid (show Below w.heap.size w (w22.setCell ⟨g, 0, none⟩ (.slice (some ⟨g7, 0, none⟩) 12 cap7)) from by
              have h := P23.out.below C22.out C22.out.size HBG.out
              rw [HJ.out] at h
              exact h)
            clear A23 P23 II22 I22
            go_wp2
            go_roundw
            case rel => exact ⟨k + 1, by omega, by go_num, R23.out, D23.out⟩
            case measure => simp [intOf]; omega
    · obtain rfl : k = n := by omega
      go_wp2
      go_ret
      refine ⟨_, rfl, ?_, HB.out⟩
      have h := HR.out
      rw [List.take_of_length_le (by have := HL.out; omega)] at h
      exact h
end Go.Proofs.Ytppcpidlnpencaa
