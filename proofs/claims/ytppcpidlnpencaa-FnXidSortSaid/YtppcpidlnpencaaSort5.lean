/-
  The thin package's XidSort.
-/
import Derived.Test.YtppcpidlnpencaaSort4
import Derived.Test.YtppcpidlnpencaaList
import Derived.Test.YtppcpidlnpencaaBuild
namespace Go.Proofs.Ytppcpidlnpencaa
open Go.RowKit
set_option linter.unusedVariables false
theorem Try.infoI : (Try.prog.info? 54).map (fun i => (i.zero, i.size, i.bytes)) = some (some (.agg (z12.map B8).toArray), 12, 12) := by kernel_rfl
theorem wpList_getm {P : Program} {ops : Array Oper} {rest : List Oper} {o : Oper} {a : Act} {w : World} {Q : Exit → Act → World → Prop} (hgd : o.guard = none) (ty : TypeId) (x : Operand) (ho : o.op = .load ty x) (b off : Nat) (hx : a.eval x = .pointer (some ⟨b, off, none⟩)) (cs : List Value) (d : TypeDesc) (hc : w.rangeAt b off cs)
    (hu : P.underlying ty = some d) (hd : d.isRow = true) (hi : (P.info? ty).map (·.size) = some cs.length) (h : wpList P ops Q rest (a.put o.dst (.agg cs.toArray)) w) : wpList P ops Q (o :: rest) a w :=
  wpList_plain hgd fun _ hK => wp_load_mid ty x ho b off hx cs d hc hu hd hi (hK _ _ h)
theorem take_succ_getD (Ls : List (List UInt8)) (k : Nat) (h : k < Ls.length) : Ls.take (k + 1) = Ls.take k ++ [Ls.getD k []] := by
  rw [List.take_succ_eq_append_getElem h]
  simp [List.getD, h]
/-- From address A on lie slices of the bytes of Ls. -/
def LstB (w : World) (A : Option Addr) (Ls : List (List UInt8)) : Prop :=
  0 < Ls.length → ∃ b off, A = some ⟨b, off, none⟩ ∧ b < w.heap.size ∧ ∀ (j : Nat) (L : List UInt8), Ls[j]? = some L → ∃ A' c, w.cell? ⟨b, off + j, none⟩ = some (.slice A' L.length c) ∧ Byt w A' L
theorem LstB.below {w w' : World} {A : Option Addr} {Ls : List (List UInt8)} {B : Nat} (h : LstB w A Ls) (hb : Below B w w') (hB : w.heap.size ≤ B) : LstB w' A Ls := fun hp => by
  obtain ⟨b, off, rfl, hlt, hc⟩ := h hp
  refine ⟨b, off, rfl, Nat.lt_of_lt_of_le hlt hb.size, fun j L hj => ?_⟩
  obtain ⟨A', c, h1, h2⟩ := hc j L hj
  exact ⟨A', c, (hb.cell (p := ⟨b, off + j, none⟩) (by show b < B; omega)).trans h1, h2.below hb hB⟩
theorem id_build (L : List UInt8) (h : L.length = 12) (w : World) : (Instr.buildSlice 82 1 #[(0, .agg (L.map B8).toArray)]).run Try.prog w = .ok (.slice (some ⟨w.heap.size, 0, none⟩) 1 1) (w.alloc (.cells (L.map B8).toArray 54)) := by
  obtain ⟨a0, a1, a2, a3, a4, a5, a6, a7, a8, a9, a10, a11, rfl⟩ : ∃ a0 a1 a2 a3 a4 a5 a6 a7 a8 a9 a10 a11, L = [a0, a1, a2, a3, a4, a5, a6, a7, a8, a9, a10, a11] := by
    match L, h with
    | [a0, a1, a2, a3, a4, a5, a6, a7, a8, a9, a10, a11], _ => exact ⟨_, _, _, _, _, _, _, _, _, _, _, _, rfl⟩
  kernel_rfl
def catB (Ls : List (List UInt8)) : List Value := Ls.flatten.map B8
theorem own_ids {w : World} {base : Nat} {A : Option Addr} {n c : Nat} {Ls : List (List UInt8)} (ho : w.ownsRow base 54 12 (.slice A n c) n (catB Ls)) (hp : 0 < n) : ∃ g rest, A = some ⟨g, 0, none⟩ ∧ base ≤ g ∧ IDs w g Ls rest := by
  rcases ho.2 with ⟨-, h0⟩ | ⟨g, cap, cur, hv, hb, hg, k1, k2, k3, k4⟩
  · omega
  · injection hv with hA hn' hc
    refine ⟨g, cur.toList.drop (n * 12), hA, hb, ?_⟩
    unfold IDs At flat
    rw [hg, show Ls.flatten.map B8 = catB Ls from rfl, ← k4, List.take_append_drop]
theorem own_keep {w w' : World} {base g n c : Nat} {xs : List Value} (ho : w.ownsRow base 54 12 (.slice (some ⟨g, 0, none⟩) n c) n xs) (h : ∀ cs, At w g 54 cs → At w' g 54 cs) : w'.ownsRow base 54 12 (.slice (some ⟨g, 0, none⟩) n c) n xs := by
  refine ⟨ho.1, ?_⟩
  rcases ho.2 with ⟨h1, h0⟩ | ⟨g', cap, cur, hv, hb, hg, k⟩
  · injection h1 with h1; cases h1
  · injection hv with hA hn' hc
    injection hA with hA
    injection hA with hA
    subst hA
    exact .inr ⟨g, cap, cur, by rw [hc], hb, h cur.toList hg, k⟩
def SortOk (Ls : List (List UInt8)) (n : Nat) (w : World) (e : Ending) (w' : World) : Prop := ∃ v, e = .returned (.tuple #[v, .bool true]) ∧ RowsB w' w.heap.size v n (sortB Ls) ∧ Below w.heap.size w w'
set_option maxRecDepth 100000 in
set_option maxHeartbeats 4000000 in
theorem xidSort_any (Ls : List (List UInt8)) (n : Nat) (hl : Ls.length = n) (hn : n ≤ 12) (h12 : ∀ L ∈ Ls, L.length = 12) (A : Option Addr) (c : Nat) (w : World) (hT : LstB w A Ls) :
    Calls Try.prog 26 #[.slice A n c] w (SortOk Ls n w) := by
  have HL := Lib.hid hl
  have HT := Lib.hid hT
  have H12 := Lib.hid h12
  have HN := Lib.hid hn
  obtain ⟨Z, hZ⟩ : ∃ Z, Z = z12.map B8 := ⟨_, rfl⟩
  have hz : ∀ w, (zeroValue 54).run Try.prog w = .ok (.agg Z.toArray) w := hZ ▸ Try.zeroI
  have HZ := Lib.hid (show Z.length = 12 by simp [hZ, z12])
  have ni : (n : Int) ≤ 12 := by omega
  have O0 := Lib.hid (show (w.alloc (.cells #[] 54)).ownsRow w.heap.size 54 12 (.slice (some ⟨w.heap.size, 0, none⟩) 0 0) 0 (catB (Ls.take 0)) from World.ownsRow_made w #[] 0 (Nat.le_refl _) (by simp [maxLen]) (by simp))
  have B0 := Lib.hid (show Below w.heap.size w (w.alloc (.cells #[] 54)) from (Below.refl _ _).alloc (Nat.le_refl _) _)
  clear hl hT h12 hZ hn
  go_enter Try.func26, Try.ntmps26
  go_wp2
  go_loopw [4, 15] (fun v i wr => ∃ k : Nat, k ≤ n ∧ i = .int .i64 k ∧ wr.ownsRow w.heap.size 54 12 v k (catB (Ls.take k)) ∧ Below w.heap.size w wr) (fun _ i _ => n - (intOf i).toNat)
  case atStart => exact ⟨0, by omega, rfl, O0.out, B0.out⟩
  case round =>
    obtain ⟨k, hk, rfl, hown, hbel⟩ := hrel
    have HO := Lib.hid hown
    have HB := Lib.hid hbel
    clear hown hbel
    by_cases hlt : k < n
    · have lk : k < Ls.length := by rw [HL.out]; exact hlt
      obtain ⟨eL, lL⟩ := getD_12 H12.out lk
      have ts := take_succ_getD Ls k lk
      obtain ⟨L, hL⟩ : ∃ L, L = Ls.getD k [] := ⟨_, rfl⟩
      rw [← hL] at eL lL ts
      obtain ⟨b, off, hTe, hlb, hcell⟩ := (HT.out.below HB.out (Nat.le_refl _)) (by omega)
      subst hTe
      obtain ⟨A', c', cx, by1⟩ := hcell k L eL
      rw [lL] at cx
      have TS := Lib.hid (show catB (Ls.take k) ++ L.map B8 = catB (Ls.take (k + 1)) by rw [ts]; simp [catB])
      have XB := Lib.hid (fun (q : Nat) => xidBytes_yes A' 12 c' L rfl lL (wr.drewN q) (by1.drewN q))
      have X0 := Lib.hid (xidBytes_yes A' 12 c' L rfl lL wr by1)
      have HBS := Lib.hid (sizeI_of L lL)
      have HIB := Lib.hid (id_build L lL)
      have LL := Lib.hid lL
      have q1 : (k : Int) < (n : Int) := by omega
      clear ts hL eL lL hcell by1 lk
      go_wp2_with fail
      refine (X0.out).mono ?_
      rintro e w1 ⟨rfl, b1⟩
      have B1 := Lib.hid (HB.out.trans (b1.mono HB.out.size))
      have O1 := Lib.hid (HO.out.kept (grown_of_below b1 none) (by cases u4.ownBlock <;> simp))
      clear b1 cx
      go_wp2_with (refine wpList_var rfl 54 rfl (.agg Z.toArray) Z hz rfl ?_)
      intro w2 h2
      have H2 := Lib.hid h2
      clear h2
      go_wp2_with (refine wpList_put rfl 54 (.tmp 7) (.tmp 22) rfl w1.heap.size (L.map B8) (by rfl) (by rfl) 54 Z H2.out.at_ HBS.out (by rw [HZ.out, List.length_map, LL.out]) (B8_one _) ?_)
      intro w3 h3
      have B13 := Lib.hid (show Below w1.heap.size w1 w3 from h3.below (H2.out.below (Below.refl _ _) (Nat.le_refl _)) (by have := H2.out.size; omega) (Nat.le_refl _))
      have A3 := Lib.hid h3.at_
      clear h3
      have B3 := Lib.hid (B1.out.trans (B13.out.mono B1.out.size))
      have O3 := Lib.hid (O1.out.kept (grown_of_below B13.out none) (by cases u4.ownBlock <;> simp))
      go_wp2_with (first
        | (refine wpList_get rfl 54 (.tmp 7) rfl w1.heap.size (by rfl) 54 (L.map B8) _ A3.out Try.underlying54 rfl HBS.out ?_)
        | (refine wpList_buildS rfl 82 54 1 _ #[(0, .agg (L.map B8).toArray)] rfl (by first | rfl | simp [Act.eval, Act.put]) (L.map B8) HIB.out ?_))
      intro w4 h4
      have A4 := Lib.hid (show w4.rangeAt w3.heap.size 0 (L.map B8) from h4.at_.range)
      have B34 := Lib.hid (show Below w3.heap.size w3 w4 from h4.below (Below.refl _ _) (Nat.le_refl _))
      clear h4
      have O4 := Lib.hid (O3.out.kept (grown_of_below B34.out none) (by cases u4.ownBlock <;> simp))
      have B4 := Lib.hid (B3.out.trans (B34.out.mono B3.out.size))
      obtain ⟨ii, hi1, hz0, hz1, hz2⟩ := info_parts Try.infoI
      have OB := Lib.hid (fun (k : Nat) (hk : u4.ownBlock = some k) => (O4.out.lt k hk).1)
      go_wp2_with (refine wpList_append_own _ rfl (.tmp 26) (.tmp 28) 82 rfl w.heap.size 54 ii (.agg (z12.map B8).toArray) 12 12 Try.underlying82 hi1 hz0 hz1 hz2 rfl (by omega) u4 k _ (by rfl) O4.out ⟨w3.heap.size, 0, none⟩ 1 1 (L.map B8) (by rfl) (by rw [List.length_map, LL.out]) (fun j u hj => by rw [add_plain']; exact A4.out j u hj) (B8_one _) (by have := HN.out; simp only [maxLen]; omega) (by have := HN.out; omega) B4.out.size ?_)
      intro v5 w5 o5 g5 _
      rw [TS.out] at o5
      have O5 := Lib.hid o5
      have B5 := Lib.hid (show Below w.heap.size w w5 from B4.out.grown g5 B4.out.size OB.out)
      clear o5 g5 hi1 hz0 hz1 hz2
      go_wp2
      go_roundw
      case rel => exact ⟨k + 1, by omega, by go_num, O5.out, B5.out⟩
      case measure => simp [intOf]; omega
    · obtain rfl : k = n := by omega
      have O6 := HO.out
      rw [show Ls.take k = Ls by rw [← HL.out, List.take_length]] at O6
      obtain ⟨A6, c6, hv6⟩ : ∃ A6 c6, u4 = .slice A6 k c6 := by
        rcases O6.2 with ⟨h1, h0⟩ | ⟨g, cap, cur, h1, -⟩
        · exact ⟨none, 0, by rw [h1, h0]⟩
        · exact ⟨_, _, h1⟩
      subst hv6
      have SC := Lib.hid (fun wx (h : wx.ownsRow w.heap.size 54 12 (.slice A6 k c6) k (catB Ls)) (hs : w.heap.size ≤ wx.heap.size) => idsSort_any w.heap.size A6 k c6 Ls HL.out HN.out H12.out wx h hs)
      have H6 := Lib.hid O6
      clear O6 HO
      go_wp2_with (go_at_call 47; refine (SC.out _ H6.out HB.out.size).mono ?_; rintro e w7 ⟨rfl, o7, b7⟩; have O7 := Lib.hid o7; have B7 := Lib.hid (HB.out.trans b7); clear o7 b7)
      have O8 := Lib.hid (show w7.ownsRow w.heap.size 54 12 (.slice A6 k c6) k (catB (sortB Ls)) from O7.out)
      obtain ⟨S, hS⟩ : ∃ S, S = sortB Ls := ⟨_, rfl⟩
      rw [← hS] at O8
      have LS := Lib.hid (show S.length = k by rw [hS, sortB_len]; exact HL.out)
      have S12 := Lib.hid (show ∀ L ∈ S, L.length = 12 by rw [hS]; exact sortB_12 H12.out)
      have HS := Lib.hid hS
      clear hS O7
      have R8 := Lib.hid ((RowsB.empty w7 w.heap.size B7.out.size))
      have B8' := Lib.hid (show Below w.heap.size w (w7.alloc (.cells #[] 22)) from B7.out.alloc B7.out.size _)
      have O9 := Lib.hid (O8.out.kept (grown_of_below (show Below w7.heap.size w7 (w7.alloc (.cells #[] 22)) from (Below.refl _ _).alloc (Nat.le_refl _) _) none) (Classical.em _))
      have ki : (k : Int) ≤ 12 := by omega
      go_loopw [9, 36] (fun v i wr => ∃ j : Nat, j ≤ k ∧ i = .int .i64 j ∧ RowsB wr w.heap.size v j (S.take j) ∧ wr.ownsRow w.heap.size 54 12 (.slice A6 k c6) k (catB S) ∧ Below w.heap.size w wr) (fun _ i _ => k - (intOf i).toNat)
      case atStart => exact ⟨0, by omega, rfl, R8.out, O9.out, B8'.out⟩
      case round =>
        obtain ⟨j, hj, rfl, hrow, hown, hbel⟩ := hrel
        have HR := Lib.hid hrow
        have HO := Lib.hid hown
        have HBe := Lib.hid hbel
        clear hrow hown hbel
        by_cases hlt2 : j < k
        · obtain ⟨g, rest, hA6, hg6, hat⟩ := own_ids HO.out (by omega)
          subst hA6
          have lj : j < S.length := by rw [LS.out]; exact hlt2
          obtain ⟨eR, lR⟩ := getD_12 S12.out lj
          have ts := take_succ_getD S j lj
          obtain ⟨R, hR⟩ : ∃ R, R = S.getD j [] := ⟨_, rfl⟩
          rw [← hR] at eR lR ts
          have TS := Lib.hid ts
          have LR := Lib.hid lR
          have HBS := Lib.hid (sizeI_of R lR)
          have RA := Lib.hid (show wr.rangeAt g (j * 12) (R.map B8) from At.rangeM hat (j * 12) (by rw [List.length_map, lR]; exact flat_at S rest j R S12.out eR))
          have q0 : (0 : Int) ≤ (j : Int) := by omega
          have q1 : (j : Int) < (k : Int) := by omega
          clear ts hR eR lR hat hg6 lj
          go_wp2_with (first
            | (refine wpList_getm rfl 54 (.tmp 38) rfl g (j * 12) (by rfl) (R.map B8) _ RA.out Try.underlying54 rfl HBS.out ?_)
            | (refine wpList_var rfl 54 rfl (.agg Z.toArray) Z hz rfl ?_))
          intro w10 h10
          have H10 := Lib.hid h10
          clear h10
          go_wp2_with (refine wpList_put rfl 54 (.tmp 11) (.tmp 39) rfl wr.heap.size (R.map B8) (by rfl) (by rfl) 54 Z H10.out.at_ HBS.out (by rw [HZ.out, List.length_map, LR.out]) (B8_one _) ?_)
          intro w11 h11
          have H11 := Lib.hid h11
          have B11 := Lib.hid (show Below wr.heap.size wr w11 from h11.below (H10.out.below (Below.refl _ _) (Nat.le_refl _)) (by have := H10.out.size; omega) (Nat.le_refl _))
          clear h11
          have R11 := Lib.hid (HR.out.below B11.out)
          have O11 := Lib.hid (HO.out.kept (grown_of_below B11.out none) (Classical.em _))
          have C11 := Lib.hid (HBe.out.trans (B11.out.mono HBe.out.size))
          have HOE := Lib.hid (own_empty w11 5 w11.heap.size (Nat.le_refl _))
          have HBy := Lib.hid ((H11.out.at_.byt).below (B := w11.heap.size) ((Below.refl _ _).alloc (Nat.le_refl _) (.cells #[] 5)) (Nat.le_refl _))
          go_wp2_with (refine wpList_appB rfl (.tmp 41) (.tmp 42) 22 rfl w11.heap.size 5 Try.underlying22 Try.info8 _ 0 [] (by rfl) HOE.out (some ⟨wr.heap.size, 0, none⟩) 12 12 R (by rfl) HBy.out LR.out (by simp) (by omega) (by simp) ?_)
          intro v12 w12 h12' g12
          have B12 := Lib.hid (show Below w11.heap.size w11 w12 from ((Below.refl _ _).alloc (Nat.le_refl _) _).grown g12 (by simp) (by simp [Value.ownBlock]))
          obtain ⟨-, g7, cap7, r7, e1, e2, e3⟩ := own_at (bs := R) h12' (by omega)
          subst e1
          have I12 := Lib.hid (show InB w12 w.heap.size (.slice (some ⟨g7, 0, none⟩) 12 cap7) R from ⟨g7, cap7, r7, by rw [LR.out], Nat.le_trans C11.out.size e2, e3⟩)
          clear e2 e3 h12' g12
          have R12 := Lib.hid (R11.out.below B12.out)
          have O12 := Lib.hid (O11.out.kept (grown_of_below B12.out none) (Classical.em _))
          have C12 := Lib.hid (C11.out.trans (B12.out.mono C11.out.size))
          have AL := Lib.hid (show Below w12.heap.size w12 (w12.alloc (.cells #[.slice (some ⟨g7, 0, none⟩) 12 cap7] 22)) from (Below.refl _ _).alloc (Nat.le_refl _) _)
          have R13 := Lib.hid (R12.out.below AL.out)
          have I13 := Lib.hid (I12.out.below AL.out)
          have O13 := Lib.hid (O12.out.kept (grown_of_below AL.out none) (Classical.em _))
          have C13 := Lib.hid (C12.out.trans (AL.out.mono C12.out.size))
          have D13 := Lib.hid (show (w12.alloc (.cells #[.slice (some ⟨g7, 0, none⟩) 12 cap7] 22)).cell? ⟨w12.heap.size, 0, none⟩ = some (.slice (some ⟨g7, 0, none⟩) 12 cap7) from (NewB.alloc w12 22 [.slice (some ⟨g7, 0, none⟩) 12 cap7]).at_.cell 0 (by simp))
          go_wp2_with (refine wpList_appRow rfl (.tmp 40) (.tmp 44) 33 rfl w.heap.size Try.underlying33 Try.infoS _ j _ (by rfl) R13.out w12.heap.size (.slice (some ⟨g7, 0, none⟩) 12 cap7) R (by rfl) D13.out I13.out (by omega) C13.out.size ?_)
          intro v14 w14 r14 b14 k14 z14
          rw [← TS.out] at r14
          have R14 := Lib.hid r14
          have C14 := Lib.hid (b14 _ C13.out)
          have O14 := Lib.hid (show w14.ownsRow w.heap.size 54 12 (.slice (some ⟨g, 0, none⟩) k c6) k (catB S) from own_keep O13.out (fun cs hA => k14 _ _ _ (by decide) hA))
          clear r14 b14 k14 z14
          go_wp2
          go_roundw
          case rel => exact ⟨j + 1, by omega, by go_num, R14.out, O14.out, C14.out⟩
          case measure => simp [intOf]; omega
        · obtain rfl : j = k := by omega
          go_wp2
          go_ret2
          refine ⟨_, rfl, ?_, HBe.out⟩
          have h := HR.out
          rw [List.take_of_length_le (by have := LS.out; omega), HS.out] at h
          exact h
end Go.Proofs.Ytppcpidlnpencaa
