/-
  The parts of an ID: Time, Machine, Pid, Counter, IsNil.
-/
import Derived.Test.YtppcpidlnpencaaUnm
import Derived.Test.YtppcpidlnpencaaBeX
import Derived.Test.YtppcpidlnpencaaTimeX
namespace Go.Proofs.Ytppcpidlnpencaa
open Go.RowKit
set_option linter.unusedVariables false
def numI (bs : List UInt8) (i j : Nat) : Nat := numB ((bs.take j).drop i)
theorem At.c8 {w : World} {g : Nat} {t : TypeId} {bs : List UInt8} (h : At w g t (bs.map B8)) (i : Nat) (b : UInt8) (hi : bs[i]? = some b) : w.cell? ⟨g, i, none⟩ = some (.int .u8 (b.toNat : Int)) := by
  obtain ⟨h1, h2⟩ := List.getElem?_eq_some_iff.1 hi
  rw [h.cell i (by simpa using h1)]
  simp [B8, h2]
theorem numB_4 (b0 b1 b2 b3 : UInt8) : numB [b0, b1, b2, b3] < 4294967296 := numB_lt [b0, b1, b2, b3] 4 (by simp)
theorem numB_2 (b0 b1 : UInt8) : numB [b0, b1] < 65536 := numB_lt [b0, b1] 2 (by simp)
theorem numB_3 (b0 b1 b2 : UInt8) : numB [b0, b1, b2] < 16777216 := numB_lt [b0, b1, b2] 3 (by simp)
set_option maxRecDepth 100000 in
theorem idTime (b0 b1 b2 b3 : UInt8) (r : List UInt8) (w : World) :
    Calls Try.prog 36 #[.agg ((b0 :: b1 :: b2 :: b3 :: r).map B8).toArray] w fun e w' => e = .returned (.agg (TimeV (numB [b0, b1, b2, b3]) 0).toArray) ∧ Below w.heap.size w w' := by
  have hn := numB_4 b0 b1 b2 b3
  obtain ⟨cs, hcs⟩ : ∃ cs, cs = (b0 :: b1 :: b2 :: b3 :: r).map B8 := ⟨_, rfl⟩
  obtain ⟨n, hnn⟩ : ∃ n, n = numB [b0, b1, b2, b3] := ⟨_, rfl⟩
  rw [← hcs, ← hnn]
  rw [← hnn] at hn
  obtain ⟨ts, hts⟩ : ∃ ts, ts = TimeV n 0 := ⟨_, rfl⟩
  rw [← hts]
  have HC := Lib.hid hcs
  have HN := Lib.hid hnn
  have HT := Lib.hid hts
  have HS := Lib.hid (hts ▸ Try.sizeT n 0)
  have HO := Lib.hid (hts ▸ TimeV_one n 0)
  have HZ := Lib.hid (show ts.length = 3 by rw [hts]; rfl)
  have hni : (n : Int) < 4294967296 := by omega
  have HNI := Lib.hid hn
  clear hcs hnn hts hn
  go_enter Try.func36, Try.ntmps36
  go_wp2_with (first
    | (refine wpList_boxed rfl 54 (.tmp 0) rfl (.agg cs.toArray) cs (by rfl) rfl ?_)
    | fail)
  intro w1 h1
  have H1 := Lib.hid h1
  clear h1
  go_wp2_with (first
    | (refine wpList_var rfl 58 rfl (.agg ZeroT.toArray) ZeroT Try.zeroT rfl ?_)
    | fail)
  intro w2 h2
  have H2 := Lib.hid h2
  have A2 := Lib.hid (h2.keep H1.out.at_)
  clear h2
  go_wp2_with fail
  have CX : Hid (∀ i b, (b0 :: b1 :: b2 :: b3 :: r)[i]? = some b → w2.cell? ⟨w.heap.size, i, none⟩ = some (.int .u8 (b.toNat : Int))) := Lib.hid fun i b hi => (HC.out ▸ A2.out : At w2 w.heap.size 54 _).c8 i b hi
  refine (be32_any w.heap.size 0 12 4 b0 b1 b2 b3 rfl w2 (CX.out 0 b0 rfl) (CX.out 1 b1 rfl) (CX.out 2 b2 rfl) (CX.out 3 b3 rfl)).mono ?_
  rw [← HN.out]
  rintro e w3 ⟨rfl, b3'⟩
  have B3 := Lib.hid b3'
  clear b3'
  go_wp2_with fail
  refine (unix_any n 0 (by omega) (by have := HNI.out; omega) (by omega) (by omega) w3).mono ?_
  rw [← HT.out]
  rintro e w4 ⟨rfl, b4⟩
  have A4 := Lib.hid (show At w4 w1.heap.size 58 ZeroT from (H2.out.at_.below B3.out H2.out.at_.lt).below b4 (Nat.lt_of_lt_of_le H2.out.at_.lt B3.out.size))
  have B4 := Lib.hid (show Below w.heap.size w w4 from ((H2.out.below (H1.out.below (Below.refl _ _) (Nat.le_refl _)) (by have := H1.out.size; omega)).trans (B3.out.mono (by have := H1.out.size; have := H2.out.size; omega))).trans (b4.mono (by have := H1.out.size; have := H2.out.size; have := B3.out.size; omega)))
  clear b4
  go_wp2_with (refine wpList_put rfl 58 (.tmp 2) (.tmp 8) rfl w1.heap.size ts (by rfl) (by rfl) 58 ZeroT A4.out HS.out (by rw [HZ.out]; rfl) HO.out ?_)
  intro w5 h5
  have H5 := Lib.hid h5
  clear h5
  go_wp2
  exact ret_cell 2 58 rfl w1.heap.size 58 ts _ rfl H5.out.at_ Try.underlying58 rfl HS.out rfl ⟨rfl, H5.out.below B4.out B4.out.size (by have := H1.out.size; omega)⟩
set_option maxRecDepth 100000 in
theorem idMachine (bs : List UInt8) (hbs : bs.length = 12) (w : World) :
    Calls Try.prog 38 #[.agg (bs.map B8).toArray] w fun e w' => e = .returned (.slice (some ⟨w.heap.size, 4, none⟩) 3 8) ∧ At w' w.heap.size 54 (bs.map B8) ∧ Below w.heap.size w w' := by
  obtain ⟨cs, hcs⟩ : ∃ cs, cs = bs.map B8 := ⟨_, rfl⟩
  rw [← hcs]
  clear hcs hbs
  go_enter Try.func38, Try.ntmps38
  go_wp2_with (first
    | (refine wpList_boxed rfl 54 (.tmp 0) rfl (.agg cs.toArray) cs (by rfl) rfl ?_)
    | fail)
  intro w1 h1
  have H1 := Lib.hid h1
  clear h1
  go_wp2
  go_ret
  exact ⟨rfl, H1.out.at_, H1.out.below (Below.refl _ _) (Nat.le_refl _)⟩
set_option maxRecDepth 100000 in
theorem idPid (b0 b1 b2 b3 b4 b5 b6 b7 b8 : UInt8) (r : List UInt8) (w : World) :
    Calls Try.prog 39 #[.agg ((b0 :: b1 :: b2 :: b3 :: b4 :: b5 :: b6 :: b7 :: b8 :: r).map B8).toArray] w fun e w' => e = .returned (.int .u16 (numB [b7, b8] : Int)) ∧ Below w.heap.size w w' := by
  obtain ⟨cs, hcs⟩ : ∃ cs, cs = (b0 :: b1 :: b2 :: b3 :: b4 :: b5 :: b6 :: b7 :: b8 :: r).map B8 := ⟨_, rfl⟩
  rw [← hcs]
  have HC := Lib.hid hcs
  clear hcs
  go_enter Try.func39, Try.ntmps39
  go_wp2_with (first
    | (refine wpList_boxed rfl 54 (.tmp 0) rfl (.agg cs.toArray) cs (by rfl) rfl ?_)
    | fail)
  intro w1 h1
  have H1 := Lib.hid h1
  clear h1
  have CX : Hid (∀ i b, (b0 :: b1 :: b2 :: b3 :: b4 :: b5 :: b6 :: b7 :: b8 :: r)[i]? = some b → w1.cell? ⟨w.heap.size, i, none⟩ = some (.int .u8 (b.toNat : Int))) := Lib.hid fun i b hi => (HC.out ▸ H1.out.at_ : At w1 w.heap.size 54 _).c8 i b hi
  go_wp2_with fail
  refine (be16_any w.heap.size 7 5 2 b7 b8 rfl w1 (CX.out 7 b7 rfl) (CX.out 8 b8 rfl)).mono ?_
  rintro e w3 ⟨rfl, b3'⟩
  have B3 := Lib.hid b3'
  clear b3'
  go_wp2
  go_ret
  exact ⟨rfl, (H1.out.below (Below.refl _ _) (Nat.le_refl _)).trans (B3.out.mono (by have := H1.out.size; omega))⟩
set_option maxRecDepth 100000 in
theorem idCounter (b0 b1 b2 b3 b4 b5 b6 b7 b8 b9 b10 b11 : UInt8) (w : World) :
    Calls Try.prog 40 #[.agg ([b0, b1, b2, b3, b4, b5, b6, b7, b8, b9, b10, b11].map B8).toArray] w fun e w' => e = .returned (.int .i32 (numB [b9, b10, b11] : Int)) ∧ Below w.heap.size w w' := by
  obtain ⟨cs, hcs⟩ : ∃ cs, cs = [b0, b1, b2, b3, b4, b5, b6, b7, b8, b9, b10, b11].map B8 := ⟨_, rfl⟩
  rw [← hcs]
  have HC := Lib.hid hcs
  have p0 : (b9.toNat : Int) < 256 := by have := b9.toNat_lt; omega
  have p1 : (b10.toNat : Int) < 256 := by have := b10.toNat_lt; omega
  have p2 : (b11.toNat : Int) < 256 := by have := b11.toNat_lt; omega
  clear hcs
  go_enter Try.func40, Try.ntmps40
  go_wp2_with (first
    | (refine wpList_boxed rfl 54 (.tmp 0) rfl (.agg cs.toArray) cs (by rfl) rfl ?_)
    | fail)
  intro w1 h1
  have H1 := Lib.hid h1
  clear h1
  have CX : Hid (∀ i b, [b0, b1, b2, b3, b4, b5, b6, b7, b8, b9, b10, b11][i]? = some b → w1.cell? ⟨w.heap.size, i, none⟩ = some (.int .u8 (b.toNat : Int))) := Lib.hid fun i b hi => (HC.out ▸ H1.out.at_ : At w1 w.heap.size 54 _).c8 i b hi
  have g9 := CX.out 9 b9 rfl
  have g10 := CX.out 10 b10 rfl
  have g11 := CX.out 11 b11 rfl
  go_wp2
  go_quiet (fail)
  go_wp2
  go_ret
  refine ⟨congrArg (fun n => Ending.returned (.int .i32 n)) ?_, below_drewN (H1.out.below (Below.refl _ _) (Nat.le_refl _)) _⟩
  rw [bits_join .u32 32 (by decide) wraps_u32 16 ((b9.toNat : Int) * 65536) ((b10.toNat : Int) * 256) (by omega) (by omega) (by omega) (by omega) (by omega) (by omega),
    bits_join .u32 32 (by decide) wraps_u32 8 ((b9.toNat : Int) * 65536 + (b10.toNat : Int) * 256) (b11.toNat : Int) (by omega) (by omega) (by omega) (by omega) (by omega) (by omega)]
  simp only [numB, List.foldl]
  unfold wrap32
  omega
def eqRow (P : Program) (d : Nat) (e : TypeId) (n : Nat) (xs ys : Array Value) : List Nat → Sem Bool
  | [] => pure true
  | i :: is => do
    let r ← Op.equalIn d e (← part e xs (i * n)) (← part e ys (i * n))
    if (!r) = true then pure false else eqRow P d e n xs ys is
theorem run_equalIn_row {P : Program} (w : World) (d : Nat) (t e : TypeId) (len n : Nat) (xs ys : Array Value) (ht : P.underlying t = some (.array len e)) (hn : (P.info? e).map (·.size) = some n) :
    (Op.equalIn (d + 1) t (.agg xs) (.agg ys)).run P w = (eqRow P d e n xs ys (List.range' 0 len)).run P w := by
  have hs : ∀ w, (sizeOf e).run P w = .ok n w := fun w => by
    cases hi : P.info? e with
    | none => simp [hi] at hn
    | some i => simp [hi] at hn; simp [sizeOf, typeInfo, hi, hn]
  simp only [Op.equalIn, Sem.run_bind, run_underlying ht, Result.andThen_ok, hs]
  have hr : forIn (m := Sem) [:len] ((none, ()) : Option Bool × Unit) = forIn (m := Sem) (List.range' 0 len) ((none, ()) : Option Bool × Unit) := by
    funext f
    rw [Std.Legacy.Range.forIn_eq_forIn_range']
    simp [Std.Legacy.Range.size]
  rw [hr]
  clear hr
  generalize List.range' 0 len = l
  induction l generalizing w with
  | nil => simp [eqRow]
  | cons i is ih =>
    simp only [List.forIn_cons, eqRow, Sem.run_bind, Sem.run_ite]
    generalize (part e xs (i * n)).run P w = r1
    cases r1 with
    | ok a w1 =>
      simp only [Result.andThen_ok]
      generalize (part e ys (i * n)).run P w1 = r2
      cases r2 with
      | ok b w2 =>
        simp only [Result.andThen_ok]
        generalize (Op.equalIn d e a b).run P w2 = r3
        cases r3 with
        | ok r w3 =>
          cases r
          · simp only [Result.andThen_ok, Bool.not_false, if_true, Sem.run_pure]
          · simp only [Result.andThen_ok, Bool.not_true, Bool.false_eq_true, if_false, Sem.run_pure]
            exact ih w3
        | halt x w3 => simp [Result.andThen]
      | halt x w2 => simp [Result.andThen]
    | halt x w1 => simp [Result.andThen]
theorem run_partB {P : Program} (w : World) (e : TypeId) (us : List UInt8) (i : Nat) (a : UInt8) (ha : us[i]? = some a) (hu : P.underlying e = some (.int .u8)) : (part e (us.map B8).toArray i).run P w = .ok (B8 a) w := by
  have hg : (isAgg e).run P w = .ok false w := by
    unfold isAgg
    rw [Sem.run_bind, run_underlying hu w]
    rfl
  unfold part
  rw [Sem.run_bind, hg]
  simp [ha]
theorem eqRow_run {P : Program} (d : Nat) (e : TypeId) (hu : P.underlying e = some (.int .u8)) (xs ys : List UInt8) (hl : xs.length = ys.length) (w : World) :
    ∀ m k, k + m = xs.length → (eqRow P (d + 1) e 1 (xs.map B8).toArray (ys.map B8).toArray (List.range' k m)).run P w = .ok (decide (xs.drop k = ys.drop k)) w
  | 0, k, h => by
    rw [List.drop_of_length_le (by omega), List.drop_of_length_le (by omega)]
    simp [eqRow]
  | m + 1, k, h => by
    have h1 : k < xs.length := by omega
    have h2 : k < ys.length := by omega
    have e1 := run_partB w e xs k xs[k] (by simp [h1]) hu
    have e2 := run_partB w e ys k ys[k] (by simp [h2]) hu
    have ih := eqRow_run d e hu xs ys hl w m (k + 1) (by omega)
    have e3 : (Op.equalIn (d + 1) e (B8 xs[k]) (B8 ys[k])).run P w = .ok (((xs[k].toNat : Int)) == (ys[k].toNat : Int)) w := run_equalIn_int w d e .u8 .u8 _ _ hu
    rw [List.range'_succ, eqRow]
    simp only [Nat.mul_one, Sem.run_bind, e1, e2, e3, Result.andThen_ok, Sem.run_ite]
    rw [List.drop_eq_getElem_cons h1, List.drop_eq_getElem_cons h2]
    by_cases he : xs[k] = ys[k]
    · rw [he]
      simp only [beq_self_eq_true, Bool.not_true, Bool.false_eq_true, if_false, List.cons.injEq, true_and]
      exact ih
    · have hb : (((xs[k].toNat : Int)) == (ys[k].toNat : Int)) = false := by
        rw [beq_eq_false_iff_ne]
        intro h
        exact he (UInt8.toNat_inj.1 (by omega))
      rw [hb, decide_eq_false (fun h => he (List.cons.inj h).1)]
      simp only [Bool.not_false, if_true, Sem.run_pure]
/-- Whether two arrays of bytes are the same. -/
theorem run_equalB {P : Program} (w : World) (d : Nat) (t e : TypeId) (len : Nat) (xs ys : List UInt8) (h1 : xs.length = len) (h2 : ys.length = len) (ht : P.underlying t = some (.array len e)) (hn : (P.info? e).map (·.size) = some 1) (hu : P.underlying e = some (.int .u8)) :
    (Op.equalIn (d + 2) t (.agg (xs.map B8).toArray) (.agg (ys.map B8).toArray)).run P w = .ok (decide (xs = ys)) w := by
  rw [run_equalIn_row w (d + 1) t e len 1 _ _ ht hn, eqRow_run d e hu xs ys (by rw [h1, h2]) w len 0 (by omega)]
  simp
theorem idGuard : Try.prog.eqGuardType Try.prog.depth 54 = false := by kernel_rfl
set_option maxRecDepth 100000 in
theorem idNil (bs : List UInt8) (hbs : bs.length = 12) (w : World) :
    Calls Try.prog 41 #[.agg (bs.map B8).toArray] w fun e w' => e = .returned (.bool (decide (bs = z12))) ∧ Below w.heap.size w w' := by
  have hE := fun w => run_equalB (P := Try.prog) w 9998 54 5 12 bs z12 hbs (by simp [z12]) Try.underlying54 Try.size8 Try.underlying5
  obtain ⟨r, hr⟩ : ∃ r, r = decide (bs = z12) := ⟨_, rfl⟩
  obtain ⟨cs, hcs⟩ : ∃ cs, cs = bs.map B8 := ⟨_, rfl⟩
  obtain ⟨Z, hZ⟩ : ∃ Z, Z = z12.map B8 := ⟨_, rfl⟩
  have bz : ∀ w, (Instr.build 54 #[]).run Try.prog w = .ok (.agg Z.toArray) w := hZ ▸ buildI
  have HBS := Lib.hid (sizeI_of bs hbs)
  have hG := idGuard
  rw [← hcs] at HBS
  rw [← hr, ← hcs, ← hZ] at hE
  rw [← hr, ← hcs]
  have hE' : ∀ w, (Op.equalIn 10000 54 (.agg cs.toArray) (.agg Z.toArray)).run Try.prog w = .ok r w := hE
  clear hr hcs hZ hE hbs
  go_enter Try.func41, Try.ntmps41
  go_wp2_with (first
    | (refine wpList_boxed rfl 54 (.tmp 0) rfl (.agg cs.toArray) cs (by rfl) rfl ?_)
    | fail)
  intro w1 h1
  have H1 := Lib.hid h1
  clear h1
  go_wp2_with (first
    | (refine wpList_get rfl 54 (.tmp 1) rfl w.heap.size (by rfl) 54 cs _ H1.out.at_ Try.underlying54 rfl HBS.out ?_)
    | (refine wpList_build0 rfl 54 rfl (.agg Z.toArray) bz ?_))
  go_ret
  exact ⟨rfl, H1.out.below (Below.refl _ _) (Nat.le_refl _)⟩
end Go.Proofs.Ytppcpidlnpencaa
