/-
  The timestamp of version 7.
-/
import Derived.Test.YtnofmiinbmfbnaaStampV
namespace Go.Proofs.Ytnofmiinbmfbnaa
open Go.RowKit
set_option linter.unusedVariables false
theorem wraps_i64_48 (n : Int) (h0 : 0 ≤ n) (h1 : n < 2 ^ 48) : IntKind.i64.wrap n = n := by
  simp [IntKind.wrap, IntKind.bits, IntKind.signed]; omega
theorem i64_or (i : Nat) (x y : Int) (hx0 : 0 ≤ x) (hx : x % 2 ^ i = 0) (hx1 : x < 281474976710656) (hy0 : 0 ≤ y) (hy : y < 2 ^ i) (hy1 : y < 281474976710656) : bits .or .i64 x y = x + y :=
  bits_join .i64 48 (by decide) wraps_i64_48 i x y hx0 hx hx1 hy0 hy hy1
theorem or7_chain (x0 x1 x2 x3 x4 x5 : Int) (p0 : 0 ≤ x0) (p1 : 0 ≤ x1) (p2 : 0 ≤ x2) (p3 : 0 ≤ x3) (p4 : 0 ≤ x4) (p5 : 0 ≤ x5) (q0 : x0 < 256) (q1 : x1 < 256) (q2 : x2 < 256) (q3 : x3 < 256) (q4 : x4 < 256) (q5 : x5 < 256) :
    bits .or .i64 0 (x0 * 1099511627776) = x0 * 1099511627776 ∧
    bits .or .i64 (x0 * 1099511627776) (x1 * 4294967296) = x0 * 1099511627776 + x1 * 4294967296 ∧
    bits .or .i64 (x0 * 1099511627776 + x1 * 4294967296) (x2 * 16777216) = x0 * 1099511627776 + x1 * 4294967296 + x2 * 16777216 ∧
    bits .or .i64 (x0 * 1099511627776 + x1 * 4294967296 + x2 * 16777216) (x3 * 65536) = x0 * 1099511627776 + x1 * 4294967296 + x2 * 16777216 + x3 * 65536 ∧
    bits .or .i64 (x0 * 1099511627776 + x1 * 4294967296 + x2 * 16777216 + x3 * 65536) (x4 * 256) = x0 * 1099511627776 + x1 * 4294967296 + x2 * 16777216 + x3 * 65536 + x4 * 256 ∧
    bits .or .i64 (x0 * 1099511627776 + x1 * 4294967296 + x2 * 16777216 + x3 * 65536 + x4 * 256) (x5) = x0 * 1099511627776 + x1 * 4294967296 + x2 * 16777216 + x3 * 65536 + x4 * 256 + x5 := by
  refine ⟨?_, ?_, ?_, ?_, ?_, ?_⟩
  · have := i64_or 48 0 (x0 * 1099511627776) (by omega) (by omega) (by omega) (by omega) (by omega) (by omega)
    rw [this]; omega
  · exact i64_or 40 (x0 * 1099511627776) (x1 * 4294967296) (by omega) (by omega) (by omega) (by omega) (by omega) (by omega)
  · exact i64_or 32 (x0 * 1099511627776 + x1 * 4294967296) (x2 * 16777216) (by omega) (by omega) (by omega) (by omega) (by omega) (by omega)
  · exact i64_or 24 (x0 * 1099511627776 + x1 * 4294967296 + x2 * 16777216) (x3 * 65536) (by omega) (by omega) (by omega) (by omega) (by omega) (by omega)
  · exact i64_or 16 (x0 * 1099511627776 + x1 * 4294967296 + x2 * 16777216 + x3 * 65536) (x4 * 256) (by omega) (by omega) (by omega) (by omega) (by omega) (by omega)
  · exact i64_or 8 (x0 * 1099511627776 + x1 * 4294967296 + x2 * 16777216 + x3 * 65536 + x4 * 256) (x5) (by omega) (by omega) (by omega) (by omega) (by omega) (by omega)
theorem wrap64_small (n : Int) (h0 : 0 ≤ n) (h1 : n < 9223372036854775808) : wrap64 n = n := by unfold wrap64; omega
theorem or7_end (x0 x1 x2 x3 x4 x5 s : Int) (p0 : 0 ≤ x0) (p1 : 0 ≤ x1) (p2 : 0 ≤ x2) (p3 : 0 ≤ x3) (p4 : 0 ≤ x4) (p5 : 0 ≤ x5) (q0 : x0 < 256) (q1 : x1 < 256) (q2 : x2 < 256) (q3 : x3 < 256) (q4 : x4 < 256) (q5 : x5 < 256)
    (hs : 122192928000000000 + (x0 * 1099511627776 + x1 * 4294967296 + x2 * 16777216 + x3 * 65536 + x4 * 256 + x5) * 10000 = s) :
    IntKind.u64.wrap (wrap64 (122192928000000000 + wrap64 (bits .or .i64 (bits .or .i64 (bits .or .i64 (bits .or .i64 (bits .or .i64 (bits .or .i64 0 (wrap64 (wrap64 x0 * 1099511627776))) (wrap64 (wrap64 x1 * 4294967296)))
      (wrap64 (wrap64 x2 * 16777216))) (wrap64 (wrap64 x3 * 65536))) (wrap64 (wrap64 x4 * 256))) (wrap64 x5) * 10000))) = s := by
  obtain ⟨a0, a1, a2, a3, a4, a5⟩ := or7_chain x0 x1 x2 x3 x4 x5 p0 p1 p2 p3 p4 p5 q0 q1 q2 q3 q4 q5
  rw [wrap64_small x0 (by omega) (by omega), wrap64_small x1 (by omega) (by omega), wrap64_small x2 (by omega) (by omega), wrap64_small x3 (by omega) (by omega), wrap64_small x4 (by omega) (by omega), wrap64_small x5 (by omega) (by omega)]
  rw [wrap64_small (x0 * 1099511627776) (by omega) (by omega), a0, wrap64_small (x1 * 4294967296) (by omega) (by omega), a1, wrap64_small (x2 * 16777216) (by omega) (by omega), a2, wrap64_small (x3 * 65536) (by omega) (by omega), a3,
    wrap64_small (x4 * 256) (by omega) (by omega), a4, a5]
  clear a0 a1 a2 a3 a4 a5
  rw [wrap64_small ((x0 * 1099511627776 + x1 * 4294967296 + x2 * 16777216 + x3 * 65536 + x4 * 256 + x5) * 10000) (by omega) (by omega), hs, wrap64_small s (by omega) (by omega), IntKind.wrap_u64]
  omega
set_option maxHeartbeats 2000000 in
set_option maxRecDepth 100000 in
theorem v7_yes (bs : List UInt8) (hbs : bs.length = 16) (x : UInt8) (hx : bs.getD 6 0 = x) (hv : (x.toNat : Int) / 16 = 7) (w : World) :
    Calls Try.prog 36 #[.agg (bs.map B8).toArray] w (StampYes (stamp7 bs) w) := by
  have HL := Lib.hid hbs
  have HX := Lib.hid hx
  obtain ⟨b0, h0⟩ : ∃ b, b = bs.getD 0 0 := ⟨_, rfl⟩
  obtain ⟨b1, h1⟩ : ∃ b, b = bs.getD 1 0 := ⟨_, rfl⟩
  obtain ⟨b2, h2⟩ : ∃ b, b = bs.getD 2 0 := ⟨_, rfl⟩
  obtain ⟨b3, h3⟩ : ∃ b, b = bs.getD 3 0 := ⟨_, rfl⟩
  obtain ⟨b4, h4⟩ : ∃ b, b = bs.getD 4 0 := ⟨_, rfl⟩
  obtain ⟨b5, h5⟩ : ∃ b, b = bs.getD 5 0 := ⟨_, rfl⟩
  have p0 := b0.toNat_lt
  have p1 := b1.toNat_lt
  have p2 := b2.toNat_lt
  have p3 := b3.toNat_lt
  have p4 := b4.toNat_lt
  have p5 := b5.toNat_lt
  have q0 : (b0.toNat : Int) < 256 := by omega
  have q1 : (b1.toNat : Int) < 256 := by omega
  have q2 : (b2.toNat : Int) < 256 := by omega
  have q3 : (b3.toNat : Int) < 256 := by omega
  have q4 : (b4.toNat : Int) < 256 := by omega
  have q5 : (b5.toNat : Int) < 256 := by omega
  have Q0 := Lib.hid q0
  have Q1 := Lib.hid q1
  have Q2 := Lib.hid q2
  have Q3 := Lib.hid q3
  have Q4 := Lib.hid q4
  have Q5 := Lib.hid q5
  obtain ⟨s, es⟩ : ∃ s, s = stamp7 bs := ⟨_, rfl⟩
  have ES : 122192928000000000 + ((b0.toNat : Int) * 1099511627776 + (b1.toNat : Int) * 4294967296 + (b2.toNat : Int) * 16777216 + (b3.toNat : Int) * 65536 + (b4.toNat : Int) * 256 + (b5.toNat : Int)) * 10000 = s := by
    rw [es, stamp7, lowB, midB, ← h0, ← h1, ← h2, ← h3, ← h4, ← h5]; simp only [numB, List.foldl]; omega
  rw [← es]
  have E0 := Lib.hid h0
  have E1 := Lib.hid h1
  have E2 := Lib.hid h2
  have E3 := Lib.hid h3
  have E4 := Lib.hid h4
  have E5 := Lib.hid h5
  have ES' := Lib.hid ES
  clear hbs hx h0 h1 h2 h3 h4 h5 ES es p0 p1 p2 p3 p4 p5 q0 q1 q2 q3 q4 q5
  go_enter Try.func36, Try.ntmps36
  go_wp2_with (refine wpList_boxed rfl 63 (.tmp 0) rfl (.agg (bs.map B8).toArray) (bs.map B8) (by rfl) rfl ?_)
  intro w1 h1
  have H1 := Lib.hid h1
  clear h1
  go_wp2_with (refine wpList_get rfl 63 (.tmp 1) rfl w.heap.size (by rfl) 63 (bs.map B8) _ H1.out.at_ Try.underlying63 rfl (sizeU_of bs HL.out) ?_)
  go_wp2_with fail
  refine (version_any bs HL.out x HX.out w1).mono ?_
  rw [hv]
  rintro e w2 ⟨rfl, b2'⟩
  have A2 := Lib.hid (H1.out.at_.below b2' (by have := H1.out.size; omega))
  have B2 := Lib.hid b2'
  clear b2'
  have c0 : w2.cell? ⟨w.heap.size, 0, none⟩ = some (.int .u8 (b0.toNat : Int)) := by rw [A2.out.get8 0 (by have := HL.out; omega), E0.out]
  have c1 : w2.cell? ⟨w.heap.size, 1, none⟩ = some (.int .u8 (b1.toNat : Int)) := by rw [A2.out.get8 1 (by have := HL.out; omega), E1.out]
  have c2 : w2.cell? ⟨w.heap.size, 2, none⟩ = some (.int .u8 (b2.toNat : Int)) := by rw [A2.out.get8 2 (by have := HL.out; omega), E2.out]
  have c3 : w2.cell? ⟨w.heap.size, 3, none⟩ = some (.int .u8 (b3.toNat : Int)) := by rw [A2.out.get8 3 (by have := HL.out; omega), E3.out]
  have c4 : w2.cell? ⟨w.heap.size, 4, none⟩ = some (.int .u8 (b4.toNat : Int)) := by rw [A2.out.get8 4 (by have := HL.out; omega), E4.out]
  have c5 : w2.cell? ⟨w.heap.size, 5, none⟩ = some (.int .u8 (b5.toNat : Int)) := by rw [A2.out.get8 5 (by have := HL.out; omega), E5.out]
  go_wp2
  go_ret2
  refine ⟨congrArg (fun n => Ending.returned (.tuple #[.int .u64 n, .nilIface])) ?_, (H1.out.below (Below.refl _ _) (Nat.le_refl _)).trans (B2.out.mono (by have := H1.out.size; omega))⟩
  exact or7_end _ _ _ _ _ _ _ (by omega) (by omega) (by omega) (by omega) (by omega) (by omega) Q0.out Q1.out Q2.out Q3.out Q4.out Q5.out ES'.out
end Go.Proofs.Ytnofmiinbmfbnaa
