/-
  The thin package's Spaces.
-/
import Derived.Test.YtnofmiinbmfbnaaSpaces
namespace Go.Proofs.Ytnofmiinbmfbnaa
open Go.RowKit
set_option linter.unusedVariables false
def spaceL : List (List UInt8) := [dnsB, urlB, oidB, x500B, z16, maxB]
theorem wpList_buildS {P : Program} {ops : Array Oper} {rest : List Oper} {o : Oper} {a : Act} {w : World} {Q : Exit → Act → World → Prop} (hgd : o.guard = none) (t e : TypeId) (n : Nat) (parts : Array (Nat × Operand)) (vs : Array (Nat × Value)) (ho : o.op = .buildSlice t n parts) (hvs : (parts.map fun (i, x) => (i, a.eval x)) = vs) (cs : List Value)
    (hrun : ∀ w, (Instr.buildSlice t n vs).run P w = .ok (.slice (some ⟨w.heap.size, 0, none⟩) n n) (w.alloc (.cells cs.toArray e))) (h : ∀ w', NewB w w' e cs → wpList P ops Q rest (a.put o.dst (.slice (some ⟨w.heap.size, 0, none⟩) n n)) w') : wpList P ops Q (o :: rest) a w := by
  refine wpList_plain hgd fun K hK => ?_
  unfold Oper.wp execOp
  simp only [ho, hvs, Sem.run_bind, hrun, Result.andThen_ok, Sem.run_pure]
  exact hK _ _ (h _ (NewB.alloc w e cs))
/-- A whole array loaded out of the middle of a row. -/
theorem wpList_getm {P : Program} {ops : Array Oper} {rest : List Oper} {o : Oper} {a : Act} {w : World} {Q : Exit → Act → World → Prop} (hgd : o.guard = none) (ty : TypeId) (x : Operand) (ho : o.op = .load ty x) (b off : Nat) (hx : a.eval x = .pointer (some ⟨b, off, none⟩)) (cs : List Value) (d : TypeDesc) (hc : w.rangeAt b off cs)
    (hu : P.underlying ty = some d) (hd : d.isRow = true) (hi : (P.info? ty).map (·.size) = some cs.length) (h : wpList P ops Q rest (a.put o.dst (.agg cs.toArray)) w) : wpList P ops Q (o :: rest) a w :=
  wpList_plain hgd fun _ hK => wp_load_mid ty x ho b off hx cs d hc hu hd hi (hK _ _ h)
def spaceV : Array (Nat × Value) := #[(0, .agg (dnsB.map B8).toArray), (1, .agg (urlB.map B8).toArray), (2, .agg (oidB.map B8).toArray), (3, .agg (x500B.map B8).toArray), (4, .agg (z16.map B8).toArray), (5, .agg (maxB.map B8).toArray)]
theorem space_build (w : World) : (Instr.buildSlice 75 6 spaceV).run Try.prog w = .ok (.slice (some ⟨w.heap.size, 0, none⟩) 6 6) (w.alloc (.cells (spaceL.flatten.map B8).toArray 63)) := by kernel_rfl
theorem space_at (k : Nat) (hk : k < 6) : ((spaceL.flatten.drop (k * 16)).take 16) = spaceL.getD k [] := by
  have h : k = 0 ∨ k = 1 ∨ k = 2 ∨ k = 3 ∨ k = 4 ∨ k = 5 := by omega
  rcases h with rfl | rfl | rfl | rfl | rfl | rfl <;> rfl
theorem space_len (k : Nat) (hk : k < 6) : (spaceL.getD k []).length = 16 := by
  have h : k = 0 ∨ k = 1 ∨ k = 2 ∨ k = 3 ∨ k = 4 ∨ k = 5 := by omega
  rcases h with rfl | rfl | rfl | rfl | rfl | rfl <;> rfl
theorem At.rangeM {w : World} {g : Nat} {t : TypeId} {cs ds : List Value} (h : At w g t cs) (o : Nat) (hd : (cs.drop o).take ds.length = ds) : w.rangeAt g o ds := fun j v hv => by
  obtain ⟨h1, h2⟩ := List.getElem?_eq_some_iff.1 hv
  have h3 : ((cs.drop o).take ds.length)[j]? = some v := by rw [hd]; exact hv
  rw [List.getElem?_take_of_lt h1, List.getElem?_drop] at h3
  obtain ⟨h4, h5⟩ := List.getElem?_eq_some_iff.1 h3
  rw [h.cell (o + j) h4, h5]
theorem take_succ_getD (Ls : List (List UInt8)) (k : Nat) (h : k < Ls.length) : Ls.take (k + 1) = Ls.take k ++ [Ls.getD k []] := by
  rw [List.take_succ_eq_append_getElem h]
  simp [List.getD, h]
set_option maxRecDepth 100000 in
set_option maxHeartbeats 1000000 in
theorem spaces_any (w : World) : Calls Try.prog 24 #[] w fun e w' => ∃ v, e = .returned v ∧ RowsB w' w.heap.size v 6 spaceL ∧ Below w.heap.size w w' := by
  obtain ⟨Z, hZ⟩ : ∃ Z, Z = z16.map B8 := ⟨_, rfl⟩
  have hz : ∀ w, (zeroValue 63).run Try.prog w = .ok (.agg Z.toArray) w := hZ ▸ Try.zeroU
  have HZ := Lib.hid (show Z.length = 16 by simp [hZ, z16])
  have F1 := Lib.hid dns_any
  have F2 := Lib.hid url_any
  have F3 := Lib.hid oid_any
  have F4 := Lib.hid x500_any
  have F5 := Lib.hid nilU_any
  have F6 := Lib.hid maxU_any
  have SB : ∀ w, (Instr.buildSlice 75 6 spaceV).run Try.prog w = _ := space_build
  unfold spaceV at SB
  obtain ⟨c1, h1⟩ : ∃ c, c = (dnsB.map B8).toArray := ⟨_, rfl⟩
  obtain ⟨c2, h2⟩ : ∃ c, c = (urlB.map B8).toArray := ⟨_, rfl⟩
  obtain ⟨c3, h3⟩ : ∃ c, c = (oidB.map B8).toArray := ⟨_, rfl⟩
  obtain ⟨c4, h4⟩ : ∃ c, c = (x500B.map B8).toArray := ⟨_, rfl⟩
  obtain ⟨c5, h5⟩ : ∃ c, c = (z16.map B8).toArray := ⟨_, rfl⟩
  obtain ⟨c6, h6⟩ : ∃ c, c = (maxB.map B8).toArray := ⟨_, rfl⟩
  obtain ⟨fs, hfs⟩ : ∃ fs, fs = spaceL.flatten.map B8 := ⟨_, rfl⟩
  rw [← h1] at F1 SB
  rw [← h2] at F2 SB
  rw [← h3] at F3 SB
  rw [← h4] at F4 SB
  rw [← h5] at F5 SB
  rw [← h6] at F6 SB
  rw [← hfs] at SB
  have HFS := Lib.hid hfs
  have HSB := Lib.hid SB
  clear h1 h2 h3 h4 h5 h6 hfs SB hZ
  have R0 := Lib.hid (RowsB.empty w w.heap.size (Nat.le_refl _))
  have B0 := Lib.hid (show Below w.heap.size w (w.alloc (.cells #[] 27)) from (Below.refl _ _).alloc (Nat.le_refl _) _)
  go_enter Try.func24, Try.ntmps24
  go_wp2_with fail
  refine (F1.out _).mono ?_
  rintro e w1 ⟨rfl, b⟩
  have R1 := Lib.hid (R0.out.below b)
  have B1 := Lib.hid (B0.out.trans (b.mono B0.out.size))
  clear b
  go_wp2_with fail
  refine (F2.out _).mono ?_
  rintro e w2 ⟨rfl, b⟩
  have R2 := Lib.hid (R1.out.below b)
  have B2 := Lib.hid (B1.out.trans (b.mono B1.out.size))
  clear b
  go_wp2_with fail
  refine (F3.out _).mono ?_
  rintro e w3 ⟨rfl, b⟩
  have R3 := Lib.hid (R2.out.below b)
  have B3 := Lib.hid (B2.out.trans (b.mono B2.out.size))
  clear b
  go_wp2_with fail
  refine (F4.out _).mono ?_
  rintro e w4 ⟨rfl, b⟩
  have R4 := Lib.hid (R3.out.below b)
  have B4 := Lib.hid (B3.out.trans (b.mono B3.out.size))
  clear b
  go_wp2_with fail
  refine (F5.out _).mono ?_
  rintro e w5 ⟨rfl, b⟩
  have R5 := Lib.hid (R4.out.below b)
  have B5 := Lib.hid (B4.out.trans (b.mono B4.out.size))
  clear b
  go_wp2_with fail
  refine (F6.out _).mono ?_
  rintro e w6 ⟨rfl, b⟩
  have R6 := Lib.hid (R5.out.below b)
  have B6 := Lib.hid (B5.out.trans (b.mono B5.out.size))
  clear b
  go_wp2_with (refine wpList_buildS rfl 75 63 6 _ _ rfl (by first | rfl | simp [Act.eval]) fs HSB.out ?_)
  intro w7 hw7
  obtain ⟨g, hg⟩ : ∃ g, g = w6.heap.size := ⟨_, rfl⟩
  have A7 := Lib.hid (show At w7 g 63 fs from hg ▸ hw7.at_)
  have BB := hw7.below (Below.refl _ _) (Nat.le_refl _)
  have R7 := Lib.hid (R6.out.below BB)
  have B7 := Lib.hid (B6.out.trans (BB.mono B6.out.size))
  rw [← hg]
  clear hw7 hg BB
  go_wp2
  go_loopw [1, 13] (fun v i wr => ∃ k : Nat, k ≤ 6 ∧ i = .int .i64 k ∧ RowsB wr w.heap.size v k (spaceL.take k) ∧ At wr g 63 fs ∧ Below w.heap.size w wr) (fun _ i _ => 6 - (intOf i).toNat)
  case atStart => exact ⟨0, by omega, rfl, R7.out, A7.out, B7.out⟩
  case round =>
    obtain ⟨k, hk, rfl, hrow, hat, hbel⟩ := hrel
    by_cases hlt : k < 6
    · obtain ⟨R, hR⟩ : ∃ R, R = spaceL.getD k [] := ⟨_, rfl⟩
      have LR := Lib.hid (show R.length = 16 by rw [hR]; exact space_len k hlt)
      have HBS := Lib.hid (sizeU_of R LR.out)
      have ts := take_succ_getD spaceL k (by show k < 6; exact hlt)
      rw [← hR] at ts
      have RA := Lib.hid (show wr.rangeAt g (k * 16) (R.map B8) from hat.rangeM (k * 16) (by
        rw [HFS.out, List.length_map, LR.out, ← List.map_drop, ← List.map_take, space_at k hlt, hR]))
      have HR := Lib.hid hrow
      have HA := Lib.hid hat
      have HBe := Lib.hid hbel
      have TS := Lib.hid ts
      have q0 : (0 : Int) ≤ (k : Int) := by omega
      have q1 : (k : Int) < 6 := by omega
      clear hrow hat hbel ts hR
      go_wp2_with (first
        | (refine wpList_getm rfl 63 (.tmp 15) rfl g (k * 16) (by rfl) (R.map B8) _ RA.out Try.underlying63 rfl HBS.out ?_)
        | (refine wpList_var rfl 63 rfl (.agg Z.toArray) Z hz rfl ?_))
      intro w8 h8
      have H8 := Lib.hid h8
      have R8 := Lib.hid (HR.out.below (h8.below (Below.refl _ _) (Nat.le_refl _)))
      have A8 := Lib.hid (h8.keep HA.out)
      clear h8
      go_wp2_with (refine wpList_put rfl 63 (.tmp 3) (.tmp 16) rfl wr.heap.size (R.map B8) (by rfl) (by rfl) 63 Z H8.out.at_ HBS.out (by rw [HZ.out, List.length_map, LR.out]) (B8_one _) ?_)
      intro w9 h9
      have H9 := Lib.hid h9
      have B89 := Lib.hid (show Below wr.heap.size wr w9 from h9.below (H8.out.below (Below.refl _ _) (Nat.le_refl _)) (by have := H8.out.size; omega) (Nat.le_refl _))
      clear h9
      have R9 := Lib.hid (HR.out.below B89.out)
      have A9 := Lib.hid (HA.out.below B89.out HA.out.lt)
      have B9 := Lib.hid (HBe.out.trans (B89.out.mono HBe.out.size))
      have HO := Lib.hid (own_empty w9 5 w9.heap.size (Nat.le_refl _))
      have HBy := Lib.hid ((H9.out.at_.byt).below (B := w9.heap.size) ((Below.refl _ _).alloc (Nat.le_refl _) (.cells #[] 5)) (Nat.le_refl _))
      go_wp2_with (refine wpList_appB rfl (.tmp 18) (.tmp 19) 27 rfl w9.heap.size 5 Try.underlying27 Try.info8 _ 0 [] (by rfl) HO.out (some ⟨wr.heap.size, 0, none⟩) 16 16 R (by rfl) HBy.out LR.out (by simp) (by omega) (by simp) ?_)
      intro v10 w10 h10 g10
      have B910 := Lib.hid (show Below w9.heap.size w9 w10 from ((Below.refl _ _).alloc (Nat.le_refl _) _).grown g10 (by simp) (by simp [Value.ownBlock]))
      obtain ⟨-, g7, cap7, r7, e1, e2, e3⟩ := own_at (bs := R) h10 (by omega)
      subst e1
      have I10 := Lib.hid (show InB w10 w.heap.size (.slice (some ⟨g7, 0, none⟩) 16 cap7) R from ⟨g7, cap7, r7, by rw [LR.out], Nat.le_trans B9.out.size e2, e3⟩)
      clear e2 e3 h10 g10
      have R10 := Lib.hid (R9.out.below B910.out)
      have A10 := Lib.hid (A9.out.below B910.out A9.out.lt)
      have B10 := Lib.hid (B9.out.trans (B910.out.mono B9.out.size))
      have AL := Lib.hid (show Below w10.heap.size w10 (w10.alloc (.cells #[.slice (some ⟨g7, 0, none⟩) 16 cap7] 27)) from (Below.refl _ _).alloc (Nat.le_refl _) _)
      have R11 := Lib.hid (R10.out.below AL.out)
      have I11 := Lib.hid (I10.out.below AL.out)
      have A11 := Lib.hid (A10.out.below AL.out A10.out.lt)
      have B11 := Lib.hid (B10.out.trans (AL.out.mono B10.out.size))
      have D11 := Lib.hid (show (w10.alloc (.cells #[.slice (some ⟨g7, 0, none⟩) 16 cap7] 27)).cell? ⟨w10.heap.size, 0, none⟩ = some (.slice (some ⟨g7, 0, none⟩) 16 cap7) from (NewB.alloc w10 27 [.slice (some ⟨g7, 0, none⟩) 16 cap7]).at_.cell 0 (by simp))
      go_wp2_with (refine wpList_appRow rfl (.tmp 17) (.tmp 21) 49 rfl w.heap.size Try.underlying49 Try.infoS _ k _ (by rfl) R11.out w10.heap.size (.slice (some ⟨g7, 0, none⟩) 16 cap7) R (by rfl) D11.out I11.out (by omega) B11.out.size ?_)
      intro v12 w12 r12 b12 k12 z12
      rw [← TS.out] at r12
      have R12 := Lib.hid r12
      have B12 := Lib.hid (b12 _ B11.out)
      have A12 := Lib.hid (k12 _ _ _ (by decide) A11.out)
      clear r12 b12 k12 z12
      go_wp2
      go_roundw
      case rel => exact ⟨k + 1, by omega, by go_num, R12.out, A12.out, B12.out⟩
      case measure => simp [intOf]; omega
    · obtain rfl : k = 6 := by omega
      have HR := Lib.hid hrow
      have HBe := Lib.hid hbel
      clear hrow hat hbel hlt hk
      go_wp2
      go_ret
      exact ⟨_, rfl, HR.out, HBe.out⟩
end Go.Proofs.Ytnofmiinbmfbnaa
