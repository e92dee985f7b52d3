/-
  NewWithTime of the package xid.
-/
import Derived.Test.YtppcpidlnpencaaXidB
import Derived.Test.YtppcpidlnpencaaTimeX
import Derived.Test.YtppcpidlnpencaaCell
import Derived.Deep.RegionHeld3
namespace Go.Proofs.Ytppcpidlnpencaa
open Go.RowKit
set_option linter.unusedVariables false
theorem grown_trans2 {a b c : World} {gc g : Nat} (h : a.grownBy b (some gc)) (k : b.grownBy c (some g)) (hg : a.heap.size ≤ g) : a.grownBy c (some gc) :=
  ⟨k.os.trans h.os, k.tape.trans h.tape, k.output.trans h.output, Nat.le_trans h.size k.size, fun i hi hne => (k.block i (Nat.lt_of_lt_of_le hi h.size) (by simp; omega)).trans (h.block i hi hne)⟩
theorem grown_trans2' {a b c : World} {gc : Nat} (h : Below a.heap.size a b) (k : b.grownBy c (some gc)) : a.grownBy c (some gc) :=
  ⟨k.os.trans h.os, k.tape.trans h.tape, k.output.trans h.output, Nat.le_trans h.size k.size, fun i hi hne => (k.block i (Nat.lt_of_lt_of_le hi h.size) hne).trans (h.block i hi)⟩
theorem Try.size32 : (Try.prog.info? 23).map (·.size) = some 1 := by kernel_rfl
set_option maxRecDepth 100000 in
theorem bePut_any (g : Nat) (t : TypeId) (cs : List Value) (hcs : 4 ≤ cs.length) (n c : Nat) (hn : n = 12) (s : Nat) (hs : s < 4294967296) (w : World) (hg : At w g t cs) :
    Calls Try.prog 48 #[.slice (some ⟨g, 0, none⟩) n c, .int .u32 (s : Int)] w fun e w' => e = .returned (.tuple #[]) ∧ PutB w w' g t (((((cs.set 0 (B8 (UInt8.ofNat (s / 16777216)))).set 1 (B8 (UInt8.ofNat (s / 65536)))).set 2 (B8 (UInt8.ofNat (s / 256)))).set 3 (B8 (UInt8.ofNat s)))) := by
  subst hn
  have c0 : w.cell? ⟨g, 0, none⟩ = some cs[0] := hg.cell 0 (by omega)
  have c1 : w.cell? ⟨g, 1, none⟩ = some cs[1] := hg.cell 1 (by omega)
  have c2 : w.cell? ⟨g, 2, none⟩ = some cs[2] := hg.cell 2 (by omega)
  have c3 : w.cell? ⟨g, 3, none⟩ = some cs[3] := hg.cell 3 (by omega)
  have f0 := hg.frozen 0
  have f1 := hg.frozen 1
  have f2 := hg.frozen 2
  have f3 := hg.frozen 3
  generalize cs[0] = v0 at c0
  generalize cs[1] = v1 at c1
  generalize cs[2] = v2 at c2
  generalize cs[3] = v3 at c3
  have HG := Lib.hid hg
  have q : (s : Int) < 4294967296 := by omega
  clear hg hcs
  go_enter Try.func48, Try.ntmps48
  go_wp2
  rw [show Value.int IntKind.u8 ((s : Int) / 16777216) = B8 (UInt8.ofNat (s / 16777216)) by rw [B8, ofNat_u8]; congr 1; omega, show Value.int IntKind.u8 ((s : Int) / 65536 % 256) = B8 (UInt8.ofNat (s / 65536)) by rw [B8, ofNat_u8]; congr 1,
    show Value.int IntKind.u8 ((s : Int) / 256 % 256) = B8 (UInt8.ofNat (s / 256)) by rw [B8, ofNat_u8]; congr 1, show Value.int IntKind.u8 ((s : Int) % 256) = B8 (UInt8.ofNat s) by rw [B8, ofNat_u8]]
  have P1 := PutB.setCell HG.out 0 (B8 (UInt8.ofNat (s / 16777216)))
  have P2 := P1.trans (PutB.setCell P1.at_ 1 (B8 (UInt8.ofNat (s / 65536))))
  have P3 := P2.trans (PutB.setCell P2.at_ 2 (B8 (UInt8.ofNat (s / 256))))
  have P4 := P3.trans (PutB.setCell P3.at_ 3 (B8 (UInt8.ofNat s)))
  go_end0
  exact ⟨rfl, P4⟩
theorem putL (s : Nat) (cs : List Value) (h : cs.length = 12) : ((((cs.set 0 (B8 (UInt8.ofNat (s / 16777216)))).set 1 (B8 (UInt8.ofNat (s / 65536)))).set 2 (B8 (UInt8.ofNat (s / 256)))).set 3 (B8 (UInt8.ofNat s))) = (bytesN s 4).map B8 ++ cs.drop 4 := by
  match cs, h with
  | [c0, c1, c2, c3, c4, c5, c6, c7, c8, c9, c10, c11], _ => simp [bytesN, List.set, Nat.div_div_eq_div_mul]
def CtrAt (w : World) (gc : Nat) (n : Nat) : Prop := At w gc 23 [.int .u32 (n : Int)]
theorem fin12 (s p q : Nat) (m0 m1 m2 : UInt8) (Z : List Value) (hZ : Z.length = 12) : (((((((((bytesN s 4).map B8 ++ Z.drop 4).set 4 (.int .u8 (m0.toNat : Int))).set 5 (.int .u8 (m1.toNat : Int))).set 6 (.int .u8 (m2.toNat : Int))).set 7 (.int .u8 ((p : Int) / 256 % 256))).set 8 (.int .u8 ((p : Int) % 256))).set 9 (.int .u8 ((q : Int) / 65536 % 256))).set 10 (.int .u8 ((q : Int) / 256 % 256))).set 11 (.int .u8 ((q : Int) % 256)) = (xidB s [m0, m1, m2] p (q % 16777216)).map B8 := by
  match Z, hZ with
  | [c0, c1, c2, c3, c4, c5, c6, c7, c8, c9, c10, c11], _ =>
    simp [bytesN, xidB, List.set, B8]
    omega
set_option maxRecDepth 100000 in
set_option maxHeartbeats 2000000 in
theorem newId_any (s p ctr q : Nat) (hs : s < 4294967296) (hp : p < 65536) (hc : ctr < 4294967296) (hq : q = (ctr + 1) % 4294967296) (A : Option Addr) (c : Nat) (m0 m1 m2 : UInt8) (w : World) (hb : Byt w A [m0, m1, m2])
    (gc : Nat) (hg : CtrAt w gc ctr) (hd : ∀ b off, A = some ⟨b, off, none⟩ → b ≠ gc) :
    Calls Try.prog 29 #[.agg (TimeV s 0).toArray, .slice A 3 c, .int .i64 (p : Int), .pointer (some ⟨gc, 0, none⟩)] w fun e w' => e = .returned (.agg ((xidB s [m0, m1, m2] p (q % 16777216)).map B8).toArray) ∧ CtrAt w' gc q ∧ w.grownBy w' (some gc) := by
  obtain ⟨b, off, rfl, hlt, hcell⟩ := hb (by simp)
  have hbne : b ≠ gc := hd b off rfl
  have cm0 : w.cell? ⟨b, off, none⟩ = some (.int .u8 (m0.toNat : Int)) := hcell 0 (by simp)
  have cm1 : w.cell? ⟨b, off + 1, none⟩ = some (.int .u8 (m1.toNat : Int)) := hcell 1 (by simp)
  have cm2 : w.cell? ⟨b, off + 2, none⟩ = some (.int .u8 (m2.toNat : Int)) := hcell 2 (by simp)
  have LT := Lib.hid hlt
  have CM0 := Lib.hid cm0
  have CM1 := Lib.hid cm1
  have CM2 := Lib.hid cm2
  have HG := Lib.hid hg
  have NE := Lib.hid hbne
  have HQ := Lib.hid hq
  have HS := Lib.hid hs
  have HP := Lib.hid hp
  have HC := Lib.hid hc
  have HI := Lib.hid (Try.sizeT s 0)
  obtain ⟨cs, hcs⟩ : ∃ cs, cs = TimeV s 0 := ⟨_, rfl⟩
  have HCS := Lib.hid hcs
  rw [← hcs] at HI ⊢
  obtain ⟨Z, hZ⟩ : ∃ Z, Z = z12.map B8 := ⟨_, rfl⟩
  have hz : ∀ w, (zeroValue 54).run Try.prog w = .ok (.agg Z.toArray) w := hZ ▸ Try.zeroI
  have HZ := Lib.hid (show Z.length = 12 by simp [hZ, z12])
  have HZE := Lib.hid hZ
  have q1 : (s : Int) < 4294967296 := by omega
  clear hb hlt hbne cm0 cm1 cm2 hg hd hcell hq hs hp hc hcs hZ
  go_enter Try.func29, Try.ntmps29
  go_wp2_with (refine wpList_boxed rfl 58 (.tmp 0) rfl (.agg cs.toArray) cs (by rfl) rfl ?_)
  intro w1 h1
  have H1 := Lib.hid h1
  clear h1
  go_wp2_with (refine wpList_var rfl 54 rfl (.agg Z.toArray) Z hz rfl ?_)
  intro w2 h2
  have H2 := Lib.hid h2
  clear h2
  go_wp2_with (refine wpList_var rfl 54 rfl (.agg Z.toArray) Z hz rfl ?_)
  intro w3 h3
  have H3 := Lib.hid h3
  clear h3
  go_wp2_with fail
  have A3 : At w3 w.heap.size 58 (TimeV s 0) := HCS.out ▸ H3.out.keep (H2.out.keep H1.out.at_)
  have lt3 : w.heap.size < w3.heap.size := A3.lt
  have c0 : w3.cell? ⟨w.heap.size, 0, none⟩ = some (.int .u64 0) := A3.time.1
  have c1 : w3.cell? ⟨w.heap.size, 1, none⟩ = some (.int .i64 ((s : Int) + 62135596800)) := A3.time.2
  have c2 : w3.cell? ⟨w.heap.size, 2, none⟩ = some (.pointer none) := A3.cell 2 (by simp [TimeV])
  have I3 := Lib.hid H3.out.at_
  clear A3
  have LT2 := Lib.hid (show w2.heap.size < w3.heap.size by have := H3.out.size; omega)
  have Z4 := Lib.hid (show 4 ≤ Z.length by have := HZ.out; omega)
  have TU : ∀ w, Calls Try.prog 37 #[.agg (TimeV s 0).toArray] w fun e w' => e = .returned (.int .i64 (s : Int)) ∧ Below w.heap.size w w' := fun w => timeUnix_any s 0 (by omega) (by omega) (by omega) (by omega) w
  have TUU := Lib.hid TU
  clear TU hz
  have TT := Lib.hid (show At w3 w.heap.size 58 (TimeV s 0) from HCS.out ▸ H3.out.keep (H2.out.keep H1.out.at_))
  have LT0 := Lib.hid lt3
  have NE0 := Lib.hid (show w.heap.size ≠ w2.heap.size by have := H1.out.size; have := H2.out.size; omega)
  clear lt3
  have wr : IntKind.u32.wrap (s : Int) = (s : Int) := u32_wrap_id _ (by omega) q1
  rename_i K0 hK0
  go_region_held3 (fun w' => w'.cell? ⟨w.heap.size, 0, none⟩ = some (.int .u64 0) ∧ w'.cell? ⟨w.heap.size, 1, none⟩ = some (.int .i64 ((s : Int) + 62135596800)) ∧ w'.cell? ⟨w.heap.size, 2, none⟩ = some (.pointer none))
    (first | exact ⟨c0, c1, c2⟩ | exact ⟨d0, d1, d2⟩ | exact ⟨e0, e1, e2⟩)
    (first
      | (go_at_call 37; refine (TUU.out _).mono ?_; rintro e w4 ⟨rfl, b4⟩; have a4 : Hid (At w4 w2.heap.size 54 Z) := Lib.hid (by first | exact At.below I3.out.drew b4 LT2.out | exact At.below I3.out.drew.drew b4 LT2.out | exact At.below I3.out b4 LT2.out)
         have t4 : Hid (At w4 w.heap.size 58 (TimeV s 0)) := Lib.hid (by first | exact At.below TT.out.drew b4 LT0.out | exact At.below TT.out.drew.drew b4 LT0.out | exact At.below TT.out b4 LT0.out)
         have d0 : w4.cell? ⟨w.heap.size, 0, none⟩ = some (.int .u64 0) := t4.out.time.1
         have d1 : w4.cell? ⟨w.heap.size, 1, none⟩ = some (.int .i64 ((s : Int) + 62135596800)) := t4.out.time.2
         have d2 : w4.cell? ⟨w.heap.size, 2, none⟩ = some (.pointer none) := t4.out.cell 2 (by simp [TimeV]))
      | (go_at_call 48; refine (bePut_any w2.heap.size 54 Z Z4.out 12 12 rfl s HS.out _ (by first | exact a4.out | exact a4.out.drew)).mono ?_; rintro e w5 ⟨rfl, p5⟩
         have t5 : Hid (At w5 w.heap.size 58 (TimeV s 0)) := Lib.hid (by first | exact p5.keep t4.out NE0.out | exact p5.keep t4.out.drew NE0.out)
         have e0 : w5.cell? ⟨w.heap.size, 0, none⟩ = some (.int .u64 0) := t5.out.time.1
         have e1 : w5.cell? ⟨w.heap.size, 1, none⟩ = some (.int .i64 ((s : Int) + 62135596800)) := t5.out.time.2
         have e2 : w5.cell? ⟨w.heap.size, 2, none⟩ = some (.pointer none) := t5.out.cell 2 (by simp [TimeV])))
  have s1 := H1.out.size
  have s2 := H2.out.size
  have s3 := H3.out.size
  have B3 : Below w.heap.size w w3 := H3.out.below (H2.out.below (H1.out.below (Below.refl _ _) (Nat.le_refl _)) (by omega)) (by omega)
  have B4 : Below w.heap.size w w4 := B3.trans (by first | exact (Below.drew (Below.refl _ _)).trans (b4.mono (by show w.heap.size ≤ w3.heap.size; omega)) | exact (Below.drew (Below.drew (Below.refl _ _))).trans (b4.mono (by show w.heap.size ≤ w3.heap.size; omega)) | exact b4.mono (by omega))
  have B5 : Below w.heap.size w w5 := by first | exact p5.below B4 B4.size (by omega) | exact p5.below B4.drew B4.size (by omega)
  rw [putL s Z HZ.out] at p5
  have A5 := p5.at_
  obtain ⟨k0, ek0⟩ : ∃ k0, k0 = (bytesN s 4).map B8 ++ Z.drop 4 := ⟨_, rfl⟩
  have ln : k0.length = 12 := by rw [ek0, List.length_append, List.length_map, bytesN_length, List.length_drop, HZ.out]
  rw [← ek0] at A5
  have P0 := Lib.hid A5
  have B0 := Lib.hid B5
  have EK := Lib.hid ek0
  have LN := Lib.hid ln
  have ne1 := Lib.hid (show w.heap.size ≤ w2.heap.size by omega)
  have X0 := Lib.hid (show At w5 w1.heap.size 54 Z by
    have hh : At w3 w1.heap.size 54 Z := H3.out.keep H2.out.at_
    have h4 : At w4 w1.heap.size 54 Z := by first | exact At.below hh.drew b4 (show w1.heap.size < w3.heap.size by omega) | exact At.below hh.drew.drew b4 (show w1.heap.size < w3.heap.size by omega) | exact At.below hh b4 (by omega)
    first | exact p5.keep h4 (by omega) | exact p5.keep h4.drew (by omega))
  clear q1 wr e0 e1 e2 d0 d1 d2 c0 c1 c2 A5 B5 B4 B3 p5 s1 s2 s3 b4 t4 t5 a4 ek0 ln TT TUU Z4 LT2 LT0 NE0 I3 HI
  try clear lt3
  rename_i hHeldX
  clear hHeldX
  refine hK0 _ _ ?_
  clear hK0
  have bm0 := Lib.hid ((B0.out.cell (p := ⟨b, off, none⟩) LT.out).trans CM0.out)
  go_wp2_with (first | (refine wpList_getc rfl 5 (.tmp 17) rfl b off (.int .u8 (m0.toNat : Int)) (by rfl) bm0.out _ Try.underlying5 rfl ?_) | (refine wpList_setc rfl 5 (.tmp 19) (.tmp 18) rfl w2.heap.size 4 .u8 (m0.toNat : Int) (by rfl) (by rfl) 54 k0 P0.out (by have := LN.out; (try simp only [List.length_set]); omega) Try.size8 ?_))
  intro u1 hu
  have P1 := Lib.hid hu.at_
  have X1 := Lib.hid (hu.keep X0.out (by have := H2.out.size; omega))
  have B1 := Lib.hid (hu.below B0.out B0.out.size ne1.out)
  clear hu
  have bm1 := Lib.hid ((B1.out.cell (p := ⟨b, off + 1, none⟩) LT.out).trans CM1.out)
  go_wp2_with (first | (refine wpList_getc rfl 5 (.tmp 21) rfl b (off + 1) (.int .u8 (m1.toNat : Int)) (by rfl) bm1.out _ Try.underlying5 rfl ?_) | (refine wpList_setc rfl 5 (.tmp 23) (.tmp 22) rfl w2.heap.size 5 .u8 (m1.toNat : Int) (by rfl) (by rfl) 54 (k0.set 4 (.int .u8 (m0.toNat : Int))) P1.out (by have := LN.out; (try simp only [List.length_set]); omega) Try.size8 ?_))
  intro u2 hu
  have P2 := Lib.hid hu.at_
  have X2 := Lib.hid (hu.keep X1.out (by have := H2.out.size; omega))
  have B2 := Lib.hid (hu.below B1.out B1.out.size ne1.out)
  clear hu
  have bm2 := Lib.hid ((B2.out.cell (p := ⟨b, off + 2, none⟩) LT.out).trans CM2.out)
  go_wp2_with (first | (refine wpList_getc rfl 5 (.tmp 25) rfl b (off + 2) (.int .u8 (m2.toNat : Int)) (by rfl) bm2.out _ Try.underlying5 rfl ?_) | (refine wpList_setc rfl 5 (.tmp 27) (.tmp 26) rfl w2.heap.size 6 .u8 (m2.toNat : Int) (by rfl) (by rfl) 54 ((k0.set 4 (.int .u8 (m0.toNat : Int))).set 5 (.int .u8 (m1.toNat : Int))) P2.out (by have := LN.out; (try simp only [List.length_set]); omega) Try.size8 ?_))
  intro u3 hu
  have P3 := Lib.hid hu.at_
  have X3 := Lib.hid (hu.keep X2.out (by have := H2.out.size; omega))
  have B3 := Lib.hid (hu.below B2.out B2.out.size ne1.out)
  clear hu
  go_wp2_with (refine wpList_setc rfl 5 (.tmp 31) (.tmp 30) rfl w2.heap.size 7 .u8 ((p : Int) / 256 % 256) (by rfl) (by rfl) 54 (((k0.set 4 (.int .u8 (m0.toNat : Int))).set 5 (.int .u8 (m1.toNat : Int))).set 6 (.int .u8 (m2.toNat : Int))) P3.out (by have := LN.out; (try simp only [List.length_set]); omega) Try.size8 ?_)
  intro u4 hu
  have P4 := Lib.hid hu.at_
  have X4 := Lib.hid (hu.keep X3.out (by have := H2.out.size; omega))
  have B4 := Lib.hid (hu.below B3.out B3.out.size ne1.out)
  clear hu
  go_wp2_with (refine wpList_setc rfl 5 (.tmp 34) (.tmp 33) rfl w2.heap.size 8 .u8 ((p : Int) % 256) (by rfl) (by rfl) 54 ((((k0.set 4 (.int .u8 (m0.toNat : Int))).set 5 (.int .u8 (m1.toNat : Int))).set 6 (.int .u8 (m2.toNat : Int))).set 7 (.int .u8 ((p : Int) / 256 % 256))) P4.out (by have := LN.out; (try simp only [List.length_set]); omega) Try.size8 ?_)
  intro u5 hu
  have P5 := Lib.hid hu.at_
  have X5 := Lib.hid (hu.keep X4.out (by have := H2.out.size; omega))
  have B5 := Lib.hid (hu.below B4.out B4.out.size ne1.out)
  clear hu
  have CC := Lib.hid (show At u5 gc 23 [.int .u32 (ctr : Int)] from At.below HG.out B5.out HG.out.lt)
  have NEG := Lib.hid (show gc ≠ w2.heap.size by have := HG.out.lt; have := ne1.out; omega)
  have NEG' := Lib.hid (show gc ≠ w1.heap.size by have := HG.out.lt; have := H1.out.size; omega)
  have bc := Lib.hid (show u5.cell? ⟨gc, 0, none⟩ = some (.int .u32 (ctr : Int)) by simpa using CC.out.cell 0 (by simp))
  go_wp2_with (first | (refine wpList_getc rfl 23 (.tmp 36) rfl gc 0 (.int .u32 (ctr : Int)) (by rfl) bc.out _ Try.underlying23 rfl ?_) | (refine wpList_setc rfl 23 (.tmp 39) (.tmp 38) rfl gc 0 .u32 (((ctr : Int) + 1) % 4294967296) (by rfl) (by rfl) 23 [.int .u32 (ctr : Int)] CC.out (by simp) Try.size32 ?_))
  intro u6 hu
  rw [show (((ctr : Int) + 1) % 4294967296) = (q : Int) by have := HQ.out; omega] at hu
  have CQ := Lib.hid (show At u6 gc 23 [.int .u32 (q : Int)] from hu.at_)
  have P5' := Lib.hid (hu.keep P5.out (Ne.symm NEG.out))
  have X5' := Lib.hid (hu.keep X5.out (Ne.symm NEG'.out))
  have GR5 := Lib.hid (grown_trans2' B5.out hu.grown)
  clear hu P5 X5
  have P5 := P5'
  have X5 := X5'
  have bq := Lib.hid (show u6.cell? ⟨gc, 0, none⟩ = some (.int .u32 (q : Int)) by simpa using CQ.out.cell 0 (by simp))
  go_wp2_with (first | (refine wpList_getc rfl 23 (.tmp 41) rfl gc 0 (.int .u32 (q : Int)) (by rfl) bq.out _ Try.underlying23 rfl ?_) | (refine wpList_setc rfl 5 (.tmp 46) (.tmp 45) rfl w2.heap.size 9 .u8 ((q : Int) / 65536 % 256) (by rfl) (by rfl) 54 (((((k0.set 4 (.int .u8 (m0.toNat : Int))).set 5 (.int .u8 (m1.toNat : Int))).set 6 (.int .u8 (m2.toNat : Int))).set 7 (.int .u8 ((p : Int) / 256 % 256))).set 8 (.int .u8 ((p : Int) % 256))) P5.out (by have := LN.out; (try simp only [List.length_set]); omega) Try.size8 ?_))
  intro u7 hu
  have P6 := Lib.hid hu.at_
  have X6 := Lib.hid (hu.keep X5.out (by have := H2.out.size; omega))
  have CQ6 := Lib.hid (hu.keep CQ.out NEG.out)
  have GR6 := Lib.hid (grown_trans2 GR5.out hu.grown (by have := ne1.out; omega))
  clear hu
  go_wp2_with (refine wpList_setc rfl 5 (.tmp 50) (.tmp 49) rfl w2.heap.size 10 .u8 ((q : Int) / 256 % 256) (by rfl) (by rfl) 54 ((((((k0.set 4 (.int .u8 (m0.toNat : Int))).set 5 (.int .u8 (m1.toNat : Int))).set 6 (.int .u8 (m2.toNat : Int))).set 7 (.int .u8 ((p : Int) / 256 % 256))).set 8 (.int .u8 ((p : Int) % 256))).set 9 (.int .u8 ((q : Int) / 65536 % 256))) P6.out (by have := LN.out; (try simp only [List.length_set]); omega) Try.size8 ?_)
  intro u8 hu
  have P7 := Lib.hid hu.at_
  have X7 := Lib.hid (hu.keep X6.out (by have := H2.out.size; omega))
  have CQ7 := Lib.hid (hu.keep CQ6.out NEG.out)
  have GR7 := Lib.hid (grown_trans2 GR6.out hu.grown (by have := ne1.out; omega))
  clear hu
  go_wp2_with (refine wpList_setc rfl 5 (.tmp 53) (.tmp 52) rfl w2.heap.size 11 .u8 ((q : Int) % 256) (by rfl) (by rfl) 54 (((((((k0.set 4 (.int .u8 (m0.toNat : Int))).set 5 (.int .u8 (m1.toNat : Int))).set 6 (.int .u8 (m2.toNat : Int))).set 7 (.int .u8 ((p : Int) / 256 % 256))).set 8 (.int .u8 ((p : Int) % 256))).set 9 (.int .u8 ((q : Int) / 65536 % 256))).set 10 (.int .u8 ((q : Int) / 256 % 256))) P7.out (by have := LN.out; (try simp only [List.length_set]); omega) Try.size8 ?_)
  intro u9 hu
  have P8 := Lib.hid hu.at_
  have X8 := Lib.hid (hu.keep X7.out (by have := H2.out.size; omega))
  have CQ8 := Lib.hid (hu.keep CQ7.out NEG.out)
  have GR8 := Lib.hid (grown_trans2 GR7.out hu.grown (by have := ne1.out; omega))
  clear hu
  have P9 := Lib.hid (show At u9 w2.heap.size 54 ((xidB s [m0, m1, m2] p (q % 16777216)).map B8) by rw [← fin12 s p q m0 m1 m2 Z HZ.out, ← EK.out]; exact P8.out)
  obtain ⟨R, hR⟩ : ∃ R, R = xidB s [m0, m1, m2] p (q % 16777216) := ⟨_, rfl⟩
  have LR : R.length = 12 := by rw [hR, xidB_length _ _ _ _ rfl]
  have HBS := Lib.hid (sizeI_of R LR)
  have LRR := Lib.hid LR
  rw [← hR] at P9
  have HRR := Lib.hid hR
  clear LR hR
  go_wp2_with (first
    | (refine wpList_get rfl 54 (.tmp 9) rfl w2.heap.size (by rfl) 54 (R.map B8) _ P9.out Try.underlying54 rfl HBS.out ?_)
    | (refine wpList_put rfl 54 (.tmp 8) (.tmp 54) rfl w1.heap.size (R.map B8) (by rfl) (by rfl) 54 Z X8.out HBS.out (by rw [HZ.out, List.length_map, LRR.out]) (B8_one _) ?_))
  intro ux hu
  have HU := Lib.hid hu
  clear hu
  go_wp2
  refine ret_cell 8 54 rfl w1.heap.size 54 (R.map B8) _ rfl HU.out.at_ Try.underlying54 rfl HBS.out rfl ⟨by rw [← HRR.out], ?_, ?_⟩
  · exact HU.out.keep CQ8.out NEG'.out
  · exact grown_trans2 GR8.out HU.out.grown (by have := H1.out.size; omega)
end Go.Proofs.Ytppcpidlnpencaa
