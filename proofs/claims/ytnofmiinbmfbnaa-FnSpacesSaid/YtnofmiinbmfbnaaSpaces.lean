/-
  The spaces of names: Must, the four spaces, Nil, Max, and the thin package's Spaces.
-/
import Derived.Test.YtnofmiinbmfbnaaUuidRead
import Derived.Test.YtnofmiinbmfbnaaList
namespace Go.Proofs.Ytnofmiinbmfbnaa
open Go.RowKit
set_option linter.unusedVariables false
def dnsB : List UInt8 := [107, 167, 184, 16, 157, 173, 17, 209, 128, 180, 0, 192, 79, 212, 48, 200]
def urlB : List UInt8 := [107, 167, 184, 17, 157, 173, 17, 209, 128, 180, 0, 192, 79, 212, 48, 200]
def oidB : List UInt8 := [107, 167, 184, 18, 157, 173, 17, 209, 128, 180, 0, 192, 79, 212, 48, 200]
def x500B : List UInt8 := [107, 167, 184, 20, 157, 173, 17, 209, 128, 180, 0, 192, 79, 212, 48, 200]
def maxB : List UInt8 := List.replicate 16 255
def dnsT : ByteArray := ⟨#[54, 98, 97, 55, 98, 56, 49, 48, 45, 57, 100, 97, 100, 45, 49, 49, 100, 49, 45, 56, 48, 98, 52, 45, 48, 48, 99, 48, 52, 102, 100, 52, 51, 48, 99, 56]⟩
def urlT : ByteArray := ⟨#[54, 98, 97, 55, 98, 56, 49, 49, 45, 57, 100, 97, 100, 45, 49, 49, 100, 49, 45, 56, 48, 98, 52, 45, 48, 48, 99, 48, 52, 102, 100, 52, 51, 48, 99, 56]⟩
def oidT : ByteArray := ⟨#[54, 98, 97, 55, 98, 56, 49, 50, 45, 57, 100, 97, 100, 45, 49, 49, 100, 49, 45, 56, 48, 98, 52, 45, 48, 48, 99, 48, 52, 102, 100, 52, 51, 48, 99, 56]⟩
def x500T : ByteArray := ⟨#[54, 98, 97, 55, 98, 56, 49, 52, 45, 57, 100, 97, 100, 45, 49, 49, 100, 49, 45, 56, 48, 98, 52, 45, 48, 48, 99, 48, 52, 102, 100, 52, 51, 48, 99, 56]⟩
theorem dns_read : implO dnsT.data.toList = some dnsB := by decide +kernel
theorem url_read : implO urlT.data.toList = some urlB := by decide +kernel
theorem oid_read : implO oidT.data.toList = some oidB := by decide +kernel
theorem x500_read : implO x500T.data.toList = some x500B := by decide +kernel
set_option maxRecDepth 100000 in
theorem must_any (cs : List Value) (hl : cs.length = 16) (h1 : ∀ v ∈ cs, v.oneCell' = true) (w : World) :
    Calls Try.prog 59 #[.agg cs.toArray, .nilIface] w fun e w' => e = .returned (.agg cs.toArray) ∧ Below w.heap.size w w' := by
  have HL := Lib.hid hl
  have H1 := Lib.hid h1
  have HBS := Lib.hid (show (Try.prog.info? 63).map (·.size) = some cs.length by rw [hl]; exact Try.sizeU)
  obtain ⟨Z, hZ⟩ : ∃ Z, Z = z16.map B8 := ⟨_, rfl⟩
  have hz : ∀ w, (zeroValue 63).run Try.prog w = .ok (.agg Z.toArray) w := hZ ▸ Try.zeroU
  have HZ := Lib.hid (show Z.length = 16 by simp [hZ, z16])
  clear hl h1 hZ
  go_enter Try.func59, Try.ntmps59
  go_wp2_with (first
    | (refine wpList_boxed rfl 63 (.tmp 0) rfl (.agg cs.toArray) cs (by rfl) rfl ?_)
    | fail)
  intro w1 hw1
  have HW1 := Lib.hid hw1
  clear hw1
  go_wp2_with (first
    | (refine wpList_var rfl 63 rfl (.agg Z.toArray) Z hz rfl ?_)
    | fail)
  intro w2 hw2
  have HW2 := Lib.hid hw2
  have A2 := Lib.hid (hw2.keep HW1.out.at_)
  clear hw2 hz
  go_wp2_with (first
    | (refine wpList_get rfl 63 (.tmp 2) rfl w.heap.size (by rfl) 63 cs _ A2.out Try.underlying63 rfl HBS.out ?_)
    | (refine wpList_put rfl 63 (.tmp 4) (.tmp 8) rfl w1.heap.size cs (by rfl) (by rfl) 63 Z HW2.out.at_ HBS.out (by rw [HZ.out, HL.out]) H1.out ?_))
  intro w3 hw3
  have HW3 := Lib.hid hw3
  clear hw3
  go_wp2
  refine ret_cell 4 63 rfl w1.heap.size 63 cs _ rfl HW3.out.at_ Try.underlying63 rfl HBS.out rfl ⟨rfl, ?_⟩
  have s1 := HW1.out.size
  have s2 := HW2.out.size
  exact HW3.out.below (HW2.out.below (HW1.out.below (Below.refl _ _) (Nat.le_refl _)) (by omega)) (by omega) (by omega)
theorem wpList_buildC {P : Program} {ops : Array Oper} {rest : List Oper} {o : Oper} {a : Act} {w : World} {Q : Exit → Act → World → Prop} (hgd : o.guard = none) (t : TypeId) (parts : Array (Nat × Operand)) (vs : Array (Nat × Value)) (ho : o.op = .build t parts) (hvs : (parts.map fun (i, x) => (i, a.eval x)) = vs) (v : Value)
    (hrun : ∀ w, (Instr.build t vs).run P w = .ok v w) (h : wpList P ops Q rest (a.put o.dst v) w) : wpList P ops Q (o :: rest) a w := by
  refine wpList_plain hgd fun K hK => ?_
  unfold Oper.wp execOp
  simp only [ho, hvs, Sem.run_bind, hrun, Result.andThen_ok, Sem.run_pure]
  exact hK _ _ h
theorem wpList_build0 {P : Program} {ops : Array Oper} {rest : List Oper} {o : Oper} {a : Act} {w : World} {Q : Exit → Act → World → Prop} (hgd : o.guard = none) (t : TypeId) (ho : o.op = .build t #[]) (v : Value)
    (hrun : ∀ w, (Instr.build t #[]).run P w = .ok v w) (h : wpList P ops Q rest (a.put o.dst v) w) : wpList P ops Q (o :: rest) a w := by
  refine wpList_plain hgd fun K hK => ?_
  unfold Oper.wp execOp
  simp only [ho, Array.map_empty, Sem.run_bind, hrun, Result.andThen_ok, Sem.run_pure]
  exact hK _ _ h
set_option maxRecDepth 100000 in
theorem dns_any (w : World) : Calls Try.prog 42 #[] w fun e w' => e = .returned (.agg (dnsB.map B8).toArray) ∧ Below w.heap.size w w' := by
  obtain ⟨cs, hcs⟩ : ∃ cs, cs = dnsB.map B8 := ⟨_, rfl⟩
  have HL := Lib.hid (show cs.length = 16 by rw [hcs]; rfl)
  have H1 := Lib.hid (show ∀ v ∈ cs, v.oneCell' = true from hcs ▸ B8_one dnsB)
  have HBS := Lib.hid (show (Try.prog.info? 63).map (·.size) = some cs.length by rw [HL.out]; exact Try.sizeU)
  have FS : Hid (∀ w, Calls Try.prog 40 #[.string dnsT] w fun e w' => e = .returned (.tuple #[.agg cs.toArray, .nilIface]) ∧ Below w.heap.size w w') := Lib.hid fun w =>
    (ufromString_any dnsT w).mono fun e w' h => by
      obtain ⟨h1, -, h2⟩ := h.1 dnsB dns_read
      exact ⟨by rw [h1, hcs], h2⟩
  rw [← hcs]
  obtain ⟨Z, hZ⟩ : ∃ Z, Z = z16.map B8 := ⟨_, rfl⟩
  have hz : ∀ w, (zeroValue 63).run Try.prog w = .ok (.agg Z.toArray) w := hZ ▸ Try.zeroU
  have HZ := Lib.hid (show Z.length = 16 by simp [hZ, z16])
  clear hcs hZ
  go_enter Try.func42, Try.ntmps42
  go_wp2_with (refine wpList_var rfl 63 rfl (.agg Z.toArray) Z hz rfl ?_)
  intro w1 hw1
  have HW1 := Lib.hid hw1
  clear hw1 hz
  go_wp2_with fail
  refine (FS.out w1).mono ?_
  rintro e w2 ⟨rfl, b2⟩
  have B2 := Lib.hid b2
  clear b2
  go_wp2_with fail
  refine (must_any cs HL.out H1.out w2).mono ?_
  rintro e w3 ⟨rfl, b3⟩
  have B13 := Lib.hid (B2.out.trans (b3.mono B2.out.size))
  clear b3
  have A3 := Lib.hid (HW1.out.at_.below B13.out HW1.out.at_.lt)
  go_wp2_with (refine wpList_put rfl 63 (.tmp 0) (.tmp 4) rfl w.heap.size cs (by rfl) (by rfl) 63 Z A3.out HBS.out (by rw [HZ.out, HL.out]) H1.out ?_)
  intro w4 hw4
  have HW4 := Lib.hid hw4
  clear hw4
  go_wp2
  refine ret_cell 0 63 rfl w.heap.size 63 cs _ rfl HW4.out.at_ Try.underlying63 rfl HBS.out rfl ⟨rfl, ?_⟩
  have s1 := HW1.out.size
  have s3 := B13.out.size
  exact HW4.out.below ((HW1.out.below (Below.refl _ _) (Nat.le_refl _)).trans (B13.out.mono (by omega))) (by omega) (Nat.le_refl _)
set_option maxRecDepth 100000 in
theorem url_any (w : World) : Calls Try.prog 43 #[] w fun e w' => e = .returned (.agg (urlB.map B8).toArray) ∧ Below w.heap.size w w' := by
  obtain ⟨cs, hcs⟩ : ∃ cs, cs = urlB.map B8 := ⟨_, rfl⟩
  have HL := Lib.hid (show cs.length = 16 by rw [hcs]; rfl)
  have H1 := Lib.hid (show ∀ v ∈ cs, v.oneCell' = true from hcs ▸ B8_one urlB)
  have HBS := Lib.hid (show (Try.prog.info? 63).map (·.size) = some cs.length by rw [HL.out]; exact Try.sizeU)
  have FS : Hid (∀ w, Calls Try.prog 40 #[.string urlT] w fun e w' => e = .returned (.tuple #[.agg cs.toArray, .nilIface]) ∧ Below w.heap.size w w') := Lib.hid fun w =>
    (ufromString_any urlT w).mono fun e w' h => by
      obtain ⟨h1, -, h2⟩ := h.1 urlB url_read
      exact ⟨by rw [h1, hcs], h2⟩
  rw [← hcs]
  obtain ⟨Z, hZ⟩ : ∃ Z, Z = z16.map B8 := ⟨_, rfl⟩
  have hz : ∀ w, (zeroValue 63).run Try.prog w = .ok (.agg Z.toArray) w := hZ ▸ Try.zeroU
  have HZ := Lib.hid (show Z.length = 16 by simp [hZ, z16])
  clear hcs hZ
  go_enter Try.func43, Try.ntmps43
  go_wp2_with (refine wpList_var rfl 63 rfl (.agg Z.toArray) Z hz rfl ?_)
  intro w1 hw1
  have HW1 := Lib.hid hw1
  clear hw1 hz
  go_wp2_with fail
  refine (FS.out w1).mono ?_
  rintro e w2 ⟨rfl, b2⟩
  have B2 := Lib.hid b2
  clear b2
  go_wp2_with fail
  refine (must_any cs HL.out H1.out w2).mono ?_
  rintro e w3 ⟨rfl, b3⟩
  have B13 := Lib.hid (B2.out.trans (b3.mono B2.out.size))
  clear b3
  have A3 := Lib.hid (HW1.out.at_.below B13.out HW1.out.at_.lt)
  go_wp2_with (refine wpList_put rfl 63 (.tmp 0) (.tmp 4) rfl w.heap.size cs (by rfl) (by rfl) 63 Z A3.out HBS.out (by rw [HZ.out, HL.out]) H1.out ?_)
  intro w4 hw4
  have HW4 := Lib.hid hw4
  clear hw4
  go_wp2
  refine ret_cell 0 63 rfl w.heap.size 63 cs _ rfl HW4.out.at_ Try.underlying63 rfl HBS.out rfl ⟨rfl, ?_⟩
  have s1 := HW1.out.size
  have s3 := B13.out.size
  exact HW4.out.below ((HW1.out.below (Below.refl _ _) (Nat.le_refl _)).trans (B13.out.mono (by omega))) (by omega) (Nat.le_refl _)
set_option maxRecDepth 100000 in
theorem oid_any (w : World) : Calls Try.prog 44 #[] w fun e w' => e = .returned (.agg (oidB.map B8).toArray) ∧ Below w.heap.size w w' := by
  obtain ⟨cs, hcs⟩ : ∃ cs, cs = oidB.map B8 := ⟨_, rfl⟩
  have HL := Lib.hid (show cs.length = 16 by rw [hcs]; rfl)
  have H1 := Lib.hid (show ∀ v ∈ cs, v.oneCell' = true from hcs ▸ B8_one oidB)
  have HBS := Lib.hid (show (Try.prog.info? 63).map (·.size) = some cs.length by rw [HL.out]; exact Try.sizeU)
  have FS : Hid (∀ w, Calls Try.prog 40 #[.string oidT] w fun e w' => e = .returned (.tuple #[.agg cs.toArray, .nilIface]) ∧ Below w.heap.size w w') := Lib.hid fun w =>
    (ufromString_any oidT w).mono fun e w' h => by
      obtain ⟨h1, -, h2⟩ := h.1 oidB oid_read
      exact ⟨by rw [h1, hcs], h2⟩
  rw [← hcs]
  obtain ⟨Z, hZ⟩ : ∃ Z, Z = z16.map B8 := ⟨_, rfl⟩
  have hz : ∀ w, (zeroValue 63).run Try.prog w = .ok (.agg Z.toArray) w := hZ ▸ Try.zeroU
  have HZ := Lib.hid (show Z.length = 16 by simp [hZ, z16])
  clear hcs hZ
  go_enter Try.func44, Try.ntmps44
  go_wp2_with (refine wpList_var rfl 63 rfl (.agg Z.toArray) Z hz rfl ?_)
  intro w1 hw1
  have HW1 := Lib.hid hw1
  clear hw1 hz
  go_wp2_with fail
  refine (FS.out w1).mono ?_
  rintro e w2 ⟨rfl, b2⟩
  have B2 := Lib.hid b2
  clear b2
  go_wp2_with fail
  refine (must_any cs HL.out H1.out w2).mono ?_
  rintro e w3 ⟨rfl, b3⟩
  have B13 := Lib.hid (B2.out.trans (b3.mono B2.out.size))
  clear b3
  have A3 := Lib.hid (HW1.out.at_.below B13.out HW1.out.at_.lt)
  go_wp2_with (refine wpList_put rfl 63 (.tmp 0) (.tmp 4) rfl w.heap.size cs (by rfl) (by rfl) 63 Z A3.out HBS.out (by rw [HZ.out, HL.out]) H1.out ?_)
  intro w4 hw4
  have HW4 := Lib.hid hw4
  clear hw4
  go_wp2
  refine ret_cell 0 63 rfl w.heap.size 63 cs _ rfl HW4.out.at_ Try.underlying63 rfl HBS.out rfl ⟨rfl, ?_⟩
  have s1 := HW1.out.size
  have s3 := B13.out.size
  exact HW4.out.below ((HW1.out.below (Below.refl _ _) (Nat.le_refl _)).trans (B13.out.mono (by omega))) (by omega) (Nat.le_refl _)
set_option maxRecDepth 100000 in
theorem x500_any (w : World) : Calls Try.prog 45 #[] w fun e w' => e = .returned (.agg (x500B.map B8).toArray) ∧ Below w.heap.size w w' := by
  obtain ⟨cs, hcs⟩ : ∃ cs, cs = x500B.map B8 := ⟨_, rfl⟩
  have HL := Lib.hid (show cs.length = 16 by rw [hcs]; rfl)
  have H1 := Lib.hid (show ∀ v ∈ cs, v.oneCell' = true from hcs ▸ B8_one x500B)
  have HBS := Lib.hid (show (Try.prog.info? 63).map (·.size) = some cs.length by rw [HL.out]; exact Try.sizeU)
  have FS : Hid (∀ w, Calls Try.prog 40 #[.string x500T] w fun e w' => e = .returned (.tuple #[.agg cs.toArray, .nilIface]) ∧ Below w.heap.size w w') := Lib.hid fun w =>
    (ufromString_any x500T w).mono fun e w' h => by
      obtain ⟨h1, -, h2⟩ := h.1 x500B x500_read
      exact ⟨by rw [h1, hcs], h2⟩
  rw [← hcs]
  obtain ⟨Z, hZ⟩ : ∃ Z, Z = z16.map B8 := ⟨_, rfl⟩
  have hz : ∀ w, (zeroValue 63).run Try.prog w = .ok (.agg Z.toArray) w := hZ ▸ Try.zeroU
  have HZ := Lib.hid (show Z.length = 16 by simp [hZ, z16])
  clear hcs hZ
  go_enter Try.func45, Try.ntmps45
  go_wp2_with (refine wpList_var rfl 63 rfl (.agg Z.toArray) Z hz rfl ?_)
  intro w1 hw1
  have HW1 := Lib.hid hw1
  clear hw1 hz
  go_wp2_with fail
  refine (FS.out w1).mono ?_
  rintro e w2 ⟨rfl, b2⟩
  have B2 := Lib.hid b2
  clear b2
  go_wp2_with fail
  refine (must_any cs HL.out H1.out w2).mono ?_
  rintro e w3 ⟨rfl, b3⟩
  have B13 := Lib.hid (B2.out.trans (b3.mono B2.out.size))
  clear b3
  have A3 := Lib.hid (HW1.out.at_.below B13.out HW1.out.at_.lt)
  go_wp2_with (refine wpList_put rfl 63 (.tmp 0) (.tmp 4) rfl w.heap.size cs (by rfl) (by rfl) 63 Z A3.out HBS.out (by rw [HZ.out, HL.out]) H1.out ?_)
  intro w4 hw4
  have HW4 := Lib.hid hw4
  clear hw4
  go_wp2
  refine ret_cell 0 63 rfl w.heap.size 63 cs _ rfl HW4.out.at_ Try.underlying63 rfl HBS.out rfl ⟨rfl, ?_⟩
  have s1 := HW1.out.size
  have s3 := B13.out.size
  exact HW4.out.below ((HW1.out.below (Below.refl _ _) (Nat.le_refl _)).trans (B13.out.mono (by omega))) (by omega) (Nat.le_refl _)
set_option maxRecDepth 100000 in
theorem nilU_any (w : World) : Calls Try.prog 46 #[] w fun e w' => e = .returned (.agg (z16.map B8).toArray) ∧ Below w.heap.size w w' := by
  have bz : ∀ w, (Instr.build 63 #[]).run Try.prog w = .ok (.agg (z16.map B8).toArray) w := fun w => by kernel_rfl
  obtain ⟨cs, hcs⟩ : ∃ cs, cs = z16.map B8 := ⟨_, rfl⟩
  have HL := Lib.hid (show cs.length = 16 by rw [hcs]; rfl)
  have H1 := Lib.hid (show ∀ v ∈ cs, v.oneCell' = true from hcs ▸ B8_one z16)
  have HBS := Lib.hid (show (Try.prog.info? 63).map (·.size) = some cs.length by rw [HL.out]; exact Try.sizeU)
  rw [← hcs] at bz ⊢
  obtain ⟨Z, hZ⟩ : ∃ Z, Z = z16.map B8 := ⟨_, rfl⟩
  have hz : ∀ w, (zeroValue 63).run Try.prog w = .ok (.agg Z.toArray) w := hZ ▸ Try.zeroU
  have HZ := Lib.hid (show Z.length = 16 by simp [hZ, z16])
  clear hcs hZ
  go_enter Try.func46, Try.ntmps46
  go_wp2_with (refine wpList_var rfl 63 rfl (.agg Z.toArray) Z hz rfl ?_)
  intro w1 hw1
  have HW1 := Lib.hid hw1
  clear hw1 hz
  go_wp2_with (first
    | (refine wpList_build0 rfl 63 rfl (.agg cs.toArray) bz ?_)
    | (refine wpList_put rfl 63 (.tmp 0) (.tmp 1) rfl w.heap.size cs (by rfl) (by rfl) 63 Z HW1.out.at_ HBS.out (by rw [HZ.out, HL.out]) H1.out ?_))
  intro w4 hw4
  have HW4 := Lib.hid hw4
  clear hw4
  go_wp2
  refine ret_cell 0 63 rfl w.heap.size 63 cs _ rfl HW4.out.at_ Try.underlying63 rfl HBS.out rfl ⟨rfl, ?_⟩
  exact HW4.out.below (HW1.out.below (Below.refl _ _) (Nat.le_refl _)) (by have := HW1.out.size; omega) (Nat.le_refl _)
set_option maxRecDepth 100000 in
theorem maxU_any (w : World) : Calls Try.prog 47 #[] w fun e w' => e = .returned (.agg (maxB.map B8).toArray) ∧ Below w.heap.size w w' := by
  have bz : ∀ w, (Instr.build 63 #[(0, .int .u8 255), (1, .int .u8 255), (2, .int .u8 255), (3, .int .u8 255), (4, .int .u8 255), (5, .int .u8 255), (6, .int .u8 255), (7, .int .u8 255), (8, .int .u8 255), (9, .int .u8 255), (10, .int .u8 255), (11, .int .u8 255), (12, .int .u8 255), (13, .int .u8 255), (14, .int .u8 255), (15, .int .u8 255)]).run Try.prog w = .ok (.agg (maxB.map B8).toArray) w := fun w => by kernel_rfl
  obtain ⟨cs, hcs⟩ : ∃ cs, cs = maxB.map B8 := ⟨_, rfl⟩
  have HL := Lib.hid (show cs.length = 16 by rw [hcs]; rfl)
  have H1 := Lib.hid (show ∀ v ∈ cs, v.oneCell' = true from hcs ▸ B8_one maxB)
  have HBS := Lib.hid (show (Try.prog.info? 63).map (·.size) = some cs.length by rw [HL.out]; exact Try.sizeU)
  rw [← hcs] at bz ⊢
  obtain ⟨Z, hZ⟩ : ∃ Z, Z = z16.map B8 := ⟨_, rfl⟩
  have hz : ∀ w, (zeroValue 63).run Try.prog w = .ok (.agg Z.toArray) w := hZ ▸ Try.zeroU
  have HZ := Lib.hid (show Z.length = 16 by simp [hZ, z16])
  clear hcs hZ
  go_enter Try.func47, Try.ntmps47
  go_wp2_with (refine wpList_var rfl 63 rfl (.agg Z.toArray) Z hz rfl ?_)
  intro w1 hw1
  have HW1 := Lib.hid hw1
  clear hw1 hz
  go_wp2_with (first
    | (refine wpList_buildC rfl 63 _ #[(0, .int .u8 255), (1, .int .u8 255), (2, .int .u8 255), (3, .int .u8 255), (4, .int .u8 255), (5, .int .u8 255), (6, .int .u8 255), (7, .int .u8 255), (8, .int .u8 255), (9, .int .u8 255), (10, .int .u8 255), (11, .int .u8 255), (12, .int .u8 255), (13, .int .u8 255), (14, .int .u8 255), (15, .int .u8 255)] rfl (by first | rfl | simp [Act.eval]) (.agg cs.toArray) bz ?_)
    | (refine wpList_put rfl 63 (.tmp 0) (.tmp 1) rfl w.heap.size cs (by rfl) (by rfl) 63 Z HW1.out.at_ HBS.out (by rw [HZ.out, HL.out]) H1.out ?_))
  intro w4 hw4
  have HW4 := Lib.hid hw4
  clear hw4
  go_wp2
  refine ret_cell 0 63 rfl w.heap.size 63 cs _ rfl HW4.out.at_ Try.underlying63 rfl HBS.out rfl ⟨rfl, ?_⟩
  exact HW4.out.below (HW1.out.below (Below.refl _ _) (Nat.le_refl _)) (by have := HW1.out.size; omega) (Nat.le_refl _)
end Go.Proofs.Ytnofmiinbmfbnaa
