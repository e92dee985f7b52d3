/-
  The times of package time that occur: Unix, and the parts of such a time.
-/
import Derived.Test.YtbojjpgekbljfaaBase
namespace Go.Proofs.Ytbojjpgekbljfaa
open Go.RowKit
set_option linter.unusedVariables false
/-- The three words of a time made by Unix. -/
def TimeV (sec nano : Int) : List Value := [.int .u64 nano, .int .i64 (sec + 62135596800), .pointer none]
theorem TimeV_one (sec nano : Int) : ∀ v ∈ TimeV sec nano, v.oneCell' = true := by
  intro v hv
  simp [TimeV] at hv
  rcases hv with rfl | rfl | rfl <;> rfl
def ZeroT : List Value := [.int .u64 0, .int .i64 0, .pointer none]
theorem ZeroT_one : ∀ v ∈ ZeroT, v.oneCell' = true := by
  intro v hv
  simp [ZeroT] at hv
  rcases hv with rfl | rfl | rfl <;> rfl
theorem Try.sizeT (sec nano : Int) : (Try.prog.info? 63).map (·.size) = some (TimeV sec nano).length := by kernel_rfl
theorem Try.zeroT (w : World) : (zeroValue 63).run Try.prog w = .ok (.agg ZeroT.toArray) w := by kernel_rfl

set_option maxRecDepth 100000 in
theorem unixTime_any (sec nano : Int) (h1 : -12219292800 ≤ sec) (h2 : sec < 10000000000) (h3 : 0 ≤ nano) (h4 : nano < 1000000000) (w : World) :
    Calls Try.prog 63 #[.int .i64 sec, .int .i32 nano] w fun e w' => e = .returned (.agg (TimeV sec nano).toArray) ∧ Below w.heap.size w w' := by
  go_enter Try.func63, Try.ntmps63
  go_wp2
  refine bodyPost_ret (v := .agg (TimeV sec nano).toArray) (by simp [results, Try.results63, go_sem, TimeV]) rfl ⟨rfl, ?_⟩
  exact (Below.refl _ _).alloc (Nat.le_refl _) _

set_option maxRecDepth 100000 in
theorem unix_any (sec nano : Int) (h1 : -12219292800 ≤ sec) (h2 : sec < 10000000000) (h3 : 0 ≤ nano) (h4 : nano < 1000000000) (w : World) :
    Calls Try.prog 50 #[.int .i64 sec, .int .i64 nano] w fun e w' => e = .returned (.agg (TimeV sec nano).toArray) ∧ Below w.heap.size w w' := by
  have t1 : ¬ nano < 0 := by omega
  have t2 : ¬ 1000000000 ≤ nano := by omega
  obtain ⟨cs, hcs⟩ : ∃ cs, cs = TimeV sec nano := ⟨_, rfl⟩
  have HS := Lib.hid (hcs ▸ Try.sizeT sec nano)
  have HZ := Lib.hid (show cs.length = 3 by rw [hcs]; rfl)
  have HO := Lib.hid (hcs ▸ TimeV_one sec nano)
  have HC := Lib.hid hcs
  rw [← hcs]
  clear hcs
  go_enter Try.func50, Try.ntmps50
  go_wp2_with (refine wpList_var rfl 63 rfl (.agg ZeroT.toArray) ZeroT Try.zeroT rfl ?_)
  intro w1 h1'
  have H1 := Lib.hid h1'
  clear h1'
  go_wp2_with fail
  refine (unixTime_any sec nano h1 h2 h3 h4 w1).mono ?_
  rw [← HC.out]
  rintro e w2 ⟨rfl, b2⟩
  have B2 := Lib.hid b2
  clear b2
  have A2 := Lib.hid (H1.out.at_.below B2.out (by have := H1.out.size; omega))
  go_wp2_with (refine wpList_put rfl 63 (.tmp 4) (.tmp 30) rfl w.heap.size cs (by rfl) (by rfl) 63 ZeroT A2.out HS.out (by rw [HZ.out]; rfl) HO.out ?_)
  intro w3 h3'
  have H3 := Lib.hid h3'
  clear h3'
  go_wp2
  refine ret_cell 4 63 rfl w.heap.size 63 cs _ rfl H3.out.at_ Try.underlying63 rfl HS.out rfl ⟨rfl, ?_⟩
  have s1 := H1.out.size
  have s2 := B2.out.size
  exact H3.out.below ((H1.out.below (Below.refl _ _) (Nat.le_refl _)).trans (B2.out.mono (by omega))) (by omega) (Nat.le_refl _)

theorem u64_and_low (n : Int) (h0 : 0 ≤ n) (h1 : n < 1000000000) : bits .and .u64 n 1073741823 = n := by
  obtain ⟨m, rfl⟩ := Int.eq_ofNat_of_zero_le h0
  have hm : m < 2 ^ 30 := by omega
  show IntKind.u64.wrap ((BitVec.ofInt 64 (m : Int) &&& BitVec.ofInt 64 ((1073741823 : Nat) : Int)).toNat : Int) = _
  rw [BitVec.toNat_and, BitVec.ofInt_natCast, BitVec.ofInt_natCast, BitVec.toNat_ofNat, BitVec.toNat_ofNat]
  rw [Nat.mod_eq_of_lt (by omega : m < 2 ^ 64), Nat.mod_eq_of_lt (by decide : 1073741823 < 2 ^ 64)]
  rw [show (1073741823 : Nat) = 2 ^ 30 - 1 from rfl, Nat.and_two_pow_sub_one_eq_mod, Nat.mod_eq_of_lt hm]
  simp [IntKind.wrap, IntKind.bits, IntKind.signed]
  omega
theorem u64_and_high (n : Int) (h0 : 0 ≤ n) (h1 : n < 1000000000) : bits .and .u64 n 9223372036854775808 = 0 := by
  obtain ⟨m, rfl⟩ := Int.eq_ofNat_of_zero_le h0
  have hm : m < 2 ^ 63 := by omega
  show IntKind.u64.wrap ((BitVec.ofInt 64 (m : Int) &&& BitVec.ofInt 64 ((9223372036854775808 : Nat) : Int)).toNat : Int) = _
  rw [BitVec.toNat_and, BitVec.ofInt_natCast, BitVec.ofInt_natCast, BitVec.toNat_ofNat, BitVec.toNat_ofNat]
  rw [Nat.mod_eq_of_lt (by omega : m < 2 ^ 64), Nat.mod_eq_of_lt (by decide : 9223372036854775808 < 2 ^ 64)]
  have : m &&& 9223372036854775808 = 0 := by
    apply Nat.eq_of_testBit_eq
    intro i
    rw [Nat.testBit_and, show (9223372036854775808 : Nat) = 2 ^ 63 from rfl, Nat.testBit_two_pow]
    by_cases hi : 63 = i
    · subst hi
      simp [Nat.testBit_lt_two_pow hm]
    · simp [hi]
  rw [this]
  rfl
theorem At.time {w : World} {g : Nat} {sec nano : Int} {t : TypeId} (h : At w g t (TimeV sec nano)) :
    w.cell? ⟨g, 0, none⟩ = some (.int .u64 nano) ∧ w.cell? ⟨g, 1, none⟩ = some (.int .i64 (sec + 62135596800)) := ⟨h.cell 0 (by simp [TimeV]), h.cell 1 (by simp [TimeV])⟩

set_option maxRecDepth 100000 in
theorem nsec_any (g : Nat) (t : TypeId) (sec nano : Int) (h3 : 0 ≤ nano) (h4 : nano < 1000000000) (w : World) (hg : At w g t (TimeV sec nano)) :
    Calls Try.prog 68 #[.pointer (some ⟨g, 0, none⟩)] w fun e w' => e = .returned (.int .i32 nano) ∧ w = w' := by
  obtain ⟨c0, -⟩ := hg.time
  have e1 := u64_and_low nano h3 h4
  clear hg
  go_enter Try.func68, Try.ntmps68
  go_wp2
  go_ret
  exact ⟨rfl, rfl⟩

set_option maxRecDepth 100000 in
theorem sec_any (g : Nat) (t : TypeId) (sec nano : Int) (h3 : 0 ≤ nano) (h4 : nano < 1000000000) (w : World) (hg : At w g t (TimeV sec nano)) :
    Calls Try.prog 70 #[.pointer (some ⟨g, 0, none⟩)] w fun e w' => e = .returned (.int .i64 (sec + 62135596800)) ∧ w = w' := by
  obtain ⟨c0, c1⟩ := hg.time
  have e1 := u64_and_high nano h3 h4
  clear hg
  go_enter Try.func70, Try.ntmps70
  go_wp2
  go_ret
  exact ⟨rfl, rfl⟩

set_option maxRecDepth 100000 in
theorem unixSec_any (g : Nat) (t : TypeId) (sec nano : Int) (h1 : -12219292800 ≤ sec) (h2 : sec < 10000000000) (h3 : 0 ≤ nano) (h4 : nano < 1000000000) (w : World) (hg : At w g t (TimeV sec nano)) :
    Calls Try.prog 67 #[.pointer (some ⟨g, 0, none⟩)] w fun e w' => e = .returned (.int .i64 sec) ∧ w = w' := by
  have HG := Lib.hid hg
  clear hg
  go_enter Try.func67, Try.ntmps67
  go_wp2_with fail
  refine (sec_any g t sec nano h3 h4 w HG.out).mono ?_
  rintro e w1 ⟨rfl, rfl⟩
  go_wp2
  go_ret
  exact ⟨congrArg (fun n => Ending.returned (.int .i64 n)) (by omega), rfl⟩

set_option maxRecDepth 100000 in
theorem unixMilli_any (sec nano : Int) (h1 : -12219292800 ≤ sec) (h2 : sec < 5000000000) (h0 : -5000000000 ≤ sec) (h3 : 0 ≤ nano) (h4 : nano < 1000000000) (w : World) :
    Calls Try.prog 64 #[.agg (TimeV sec nano).toArray] w fun e w' => e = .returned (.int .i64 (sec * 1000 + nano / 1000000)) ∧ Below w.heap.size w w' := by
  obtain ⟨cs, hcs⟩ : ∃ cs, cs = TimeV sec nano := ⟨_, rfl⟩
  rw [← hcs]
  have HC := Lib.hid hcs
  clear hcs
  go_enter Try.func64, Try.ntmps64
  go_wp2_with (refine wpList_boxed rfl 63 (.tmp 0) rfl (.agg cs.toArray) cs (by rfl) rfl ?_)
  intro w1 h1'
  have H1 := Lib.hid h1'
  clear h1'
  go_wp2_with fail
  refine (unixSec_any w.heap.size 63 sec nano h1 (by omega) h3 h4 w1 (HC.out ▸ H1.out.at_)).mono ?_
  rintro e w2 ⟨rfl, rfl⟩
  go_wp2_with fail
  refine (nsec_any w.heap.size 63 sec nano h3 h4 w1 (HC.out ▸ H1.out.at_)).mono ?_
  rintro e w2 ⟨rfl, rfl⟩
  go_wp2
  go_ret
  exact ⟨rfl, H1.out.below (Below.refl _ _) (Nat.le_refl _)⟩
set_option maxRecDepth 100000 in
theorem unixNano_any (sec nano : Int) (h1 : -12219292800 ≤ sec) (h2 : sec < 5000000000) (h0 : -5000000000 ≤ sec) (h3 : 0 ≤ nano) (h4 : nano < 1000000000) (w : World) :
    Calls Try.prog 66 #[.agg (TimeV sec nano).toArray] w fun e w' => e = .returned (.int .i64 (sec * 1000000000 + nano)) ∧ Below w.heap.size w w' := by
  obtain ⟨cs, hcs⟩ : ∃ cs, cs = TimeV sec nano := ⟨_, rfl⟩
  rw [← hcs]
  have HC := Lib.hid hcs
  clear hcs
  go_enter Try.func66, Try.ntmps66
  go_wp2_with (refine wpList_boxed rfl 63 (.tmp 0) rfl (.agg cs.toArray) cs (by rfl) rfl ?_)
  intro w1 h1'
  have H1 := Lib.hid h1'
  clear h1'
  go_wp2_with fail
  refine (unixSec_any w.heap.size 63 sec nano h1 (by omega) h3 h4 w1 (HC.out ▸ H1.out.at_)).mono ?_
  rintro e w2 ⟨rfl, rfl⟩
  go_wp2_with fail
  refine (nsec_any w.heap.size 63 sec nano h3 h4 w1 (HC.out ▸ H1.out.at_)).mono ?_
  rintro e w2 ⟨rfl, rfl⟩
  go_wp2
  go_ret
  exact ⟨rfl, H1.out.below (Below.refl _ _) (Nat.le_refl _)⟩
end Go.Proofs.Ytbojjpgekbljfaa
