/-
  spec.Stamp.
-/
import Derived.Test.YtbojjpgekbljfaaBeB
import Derived.Deep.QuietTactic
import Derived.Test.YtbojjpgekbljfaaNum
import Derived.BigQuiet
namespace Go.Proofs.Ytbojjpgekbljfaa
open Go.RowKit
set_option linter.unusedVariables false
theorem At.get8 {w : World} {g : Nat} {t : TypeId} {bs : List UInt8} (h : At w g t (bs.map B8)) (i : Nat) (hi : i < bs.length) : w.cell? ⟨g, i, none⟩ = some (.int .u8 ((bs.getD i 0).toNat : Int)) := by
  rw [h.cell i (by simpa using hi)]; simp [B8, List.getD, hi]
def lowU (bs : List UInt8) : Nat := numB [bs.getD 0 0, bs.getD 1 0, bs.getD 2 0, bs.getD 3 0]
def midB (bs : List UInt8) : Nat := numB [bs.getD 4 0, bs.getD 5 0]
def hiB (bs : List UInt8) : Nat := numB [bs.getD 6 0, bs.getD 7 0]
theorem numB2_lt (a b : UInt8) : numB [a, b] < 65536 := by
  have := a.toNat_lt; have := b.toNat_lt; simp only [numB, List.foldl]; omega
theorem numB4_lt (a b c d : UInt8) : numB [a, b, c, d] < 4294967296 := by
  have := a.toNat_lt; have := b.toNat_lt; have := c.toNat_lt; have := d.toNat_lt; simp only [numB, List.foldl]; omega
theorem u16_and12 (x : Int) (h0 : 0 ≤ x) (h1 : x < 65536) : bits .and .u16 x 4095 = x % 4096 := bits_mask .u16 16 (by decide) wraps_u16 12 (by decide) x h0 h1
theorem u64_and12 (x : Int) (h0 : 0 ≤ x) (h1 : x < 18446744073709551616) : bits .and .u64 x 4095 = x % 4096 := bits_mask .u64 64 (by decide) wraps_u64 12 (by decide) x h0 h1
def stamp1 (bs : List UInt8) : Int := (lowU bs : Int) + (midB bs : Int) * 4294967296 + (hiB bs : Int) % 4096 * 281474976710656
def stamp6 (bs : List UInt8) : Int := (hiB bs : Int) % 4096 + (midB bs : Int) * 4096 + (lowU bs : Int) * 268435456
def stamp7 (bs : List UInt8) : Int := ((lowU bs : Int) * 65536 + (midB bs : Int)) * 10000 + 122192928000000000
theorem low_take (bs : List UInt8) (h : bs.length = 16) : numB (bs.take 4) = lowU bs ∧ numB ((bs.drop 4).take 2) = midB bs ∧ numB ((bs.drop 6).take 2) = hiB bs ∧ numB (bs.take 6) = lowU bs * 65536 + midB bs := by
  match bs, h with
  | [b0, b1, b2, b3, b4, b5, b6, b7, b8, b9, b10, b11, b12, b13, b14, b15], _ =>
    refine ⟨rfl, rfl, rfl, ?_⟩
    simp only [lowU, midB, numB, List.take, List.foldl, List.getD, List.getElem?_cons_zero, List.getElem?_cons_succ, Option.getD_some]
    omega
def Num3 (w : World) (b off c : Nat) (k l : Nat) (v : Nat) : Prop := ∀ n, Calls Try.prog 34 #[.slice (some ⟨b, off + k, none⟩) l (c - k)] (w.drewN n) fun e w'' => e = .returned (.int .u64 (v : Int)) ∧ ∃ m, w'' = w.drewN m
theorem num3 (w : World) (b off c k l : Nat) (bs : List UInt8) (hl : 0 < l) (hl8 : l ≤ 8) (hk : k + l ≤ bs.length) (hb : Byt w (some ⟨b, off, none⟩) bs) (v : Nat) (hv : numB ((bs.drop k).take l) = v) : Num3 w b off c k l v := fun n =>
  Calls.quiet_of_same (by subst hv; exact number_any (some ⟨b, off + k, none⟩) l (c - k) ((bs.drop k).take l) (by simp; omega) hl8 hl (w.drewN n) ((hb.drop k).take l))
set_option maxRecDepth 100000 in
theorem stamp_1 (A : Option Addr) (c : Nat) (hc : 16 ≤ c) (bs : List UInt8) (hbs : bs.length = 16) (x : UInt8) (hx : bs.getD 6 0 = x) (hv : (x.toNat : Int) / 16 = 1) (w : World) (hb : Byt w A bs) :
    Calls Try.prog 16 #[.slice A 16 c] w fun e w' => e = .returned (.int .u64 (stamp1 bs)) ∧ Below w.heap.size w w' := by
  obtain ⟨b, off, rfl, -, hcell⟩ := id hb (by omega)
  have cx : w.cell? ⟨b, off + 6, none⟩ = some (.int .u8 (x.toNat : Int)) := by rw [hcell 6 (by omega), ← hx]; simp [B8, List.getD, show 6 < bs.length by omega]
  obtain ⟨t1, t2, t3, -⟩ := low_take bs hbs
  obtain ⟨L, hL⟩ : ∃ L, L = lowU bs := ⟨_, rfl⟩
  obtain ⟨M, hM⟩ : ∃ M, M = midB bs := ⟨_, rfl⟩
  obtain ⟨H, hH⟩ : ∃ H, H = hiB bs := ⟨_, rfl⟩
  have N1 := Lib.hid (num3 w b off c 0 4 bs (by omega) (by omega) (by omega) hb L (by rw [hL]; exact t1))
  have N2 := Lib.hid (num3 w b off c 4 2 bs (by omega) (by omega) (by omega) hb M (by rw [hM]; exact t2))
  have N3 := Lib.hid (num3 w b off c 6 2 bs (by omega) (by omega) (by omega) hb H (by rw [hH]; exact t3))
  have q1 : (L : Int) < 4294967296 := by have := numB4_lt (bs.getD 0 0) (bs.getD 1 0) (bs.getD 2 0) (bs.getD 3 0); rw [hL, lowU]; omega
  have q2 : (M : Int) < 65536 := by have := numB2_lt (bs.getD 4 0) (bs.getD 5 0); rw [hM, midB]; omega
  have q3 : (H : Int) < 65536 := by have := numB2_lt (bs.getD 6 0) (bs.getD 7 0); rw [hH, hiB]; omega
  have ES : stamp1 bs = (L : Int) + (M : Int) * 4294967296 + (H : Int) % 4096 * 281474976710656 := by rw [stamp1, hL, hM, hH]
  rw [ES]
  have an := u64_and12 (H : Int) (by omega) (by omega)
  have o1 := u64_or32 (L : Int) ((M : Int) * 4294967296) (by omega) (by omega) (by omega) (by omega) (by omega)
  have o2 := u64_or48 ((L : Int) + (M : Int) * 4294967296) ((H : Int) % 4096 * 281474976710656) (by omega) (by omega) (by omega) (by omega) (by omega)
  have z4 : (4 : Nat) ≤ c := by omega
  have z6 : (6 : Nat) ≤ c := by omega
  have z8 : (8 : Nat) ≤ c := by omega
  have Q1 := Lib.hid q1
  have Q2 := Lib.hid q2
  have Q3 := Lib.hid q3
  have AN := Lib.hid an
  have O1 := Lib.hid o1
  have O2 := Lib.hid o2
  clear q1 q2 q3 an o1 o2
  clear hbs hx hL hM hH ES hb hcell t1 t2 t3
  go_enter Try.func16, Try.ntmps16
  go_wp2_with fail
  have n1 : ∀ n, Calls Try.prog 34 #[.slice (some ⟨b, off, none⟩) 4 c] (w.drewN n) fun e w'' => e = .returned (.int .u64 (L : Int)) ∧ ∃ m, w'' = w.drewN m := N1.out
  have n2 : ∀ n, Calls Try.prog 34 #[.slice (some ⟨b, off + 4, none⟩) 2 (c - 4)] (w.drewN n) fun e w'' => e = .returned (.int .u64 (M : Int)) ∧ ∃ m, w'' = w.drewN m := N2.out
  have n3 : ∀ n, Calls Try.prog 34 #[.slice (some ⟨b, off + 6, none⟩) 2 (c - 6)] (w.drewN n) fun e w'' => e = .returned (.int .u64 (H : Int)) ∧ ∃ m, w'' = w.drewN m := N3.out
  have M1 := Lib.hid n1
  have M2 := Lib.hid n2
  have M3 := Lib.hid n3
  clear n1 n2 n3
  go_quiet (first | (go_at_call 34; with_reducible exact M1.out _) | (go_at_call 34; with_reducible exact M2.out _) | (go_at_call 34; with_reducible exact M3.out _))
  go_wp2
  go_ret
  refine ⟨congrArg (fun n => Ending.returned (.int .u64 n)) ?_, below_drewN (Below.refl _ _) _⟩
  rw [AN.out, u64_wrap_id _ (by omega) (by have := Q2.out; omega), O1.out, u64_wrap_id _ (by omega) (by omega), O2.out]
set_option maxRecDepth 100000 in
theorem stamp_6 (A : Option Addr) (c : Nat) (hc : 16 ≤ c) (bs : List UInt8) (hbs : bs.length = 16) (x : UInt8) (hx : bs.getD 6 0 = x) (hv : (x.toNat : Int) / 16 = 6) (w : World) (hb : Byt w A bs) :
    Calls Try.prog 16 #[.slice A 16 c] w fun e w' => e = .returned (.int .u64 (stamp6 bs)) ∧ Below w.heap.size w w' := by
  obtain ⟨b, off, rfl, -, hcell⟩ := id hb (by omega)
  have cx : w.cell? ⟨b, off + 6, none⟩ = some (.int .u8 (x.toNat : Int)) := by rw [hcell 6 (by omega), ← hx]; simp [B8, List.getD, show 6 < bs.length by omega]
  obtain ⟨t1, t2, t3, -⟩ := low_take bs hbs
  obtain ⟨L, hL⟩ : ∃ L, L = lowU bs := ⟨_, rfl⟩
  obtain ⟨M, hM⟩ : ∃ M, M = midB bs := ⟨_, rfl⟩
  obtain ⟨H, hH⟩ : ∃ H, H = hiB bs := ⟨_, rfl⟩
  have N1 := Lib.hid (num3 w b off c 0 4 bs (by omega) (by omega) (by omega) hb L (by rw [hL]; exact t1))
  have N2 := Lib.hid (num3 w b off c 4 2 bs (by omega) (by omega) (by omega) hb M (by rw [hM]; exact t2))
  have N3 := Lib.hid (num3 w b off c 6 2 bs (by omega) (by omega) (by omega) hb H (by rw [hH]; exact t3))
  have q1 : (L : Int) < 4294967296 := by have := numB4_lt (bs.getD 0 0) (bs.getD 1 0) (bs.getD 2 0) (bs.getD 3 0); rw [hL, lowU]; omega
  have q2 : (M : Int) < 65536 := by have := numB2_lt (bs.getD 4 0) (bs.getD 5 0); rw [hM, midB]; omega
  have q3 : (H : Int) < 65536 := by have := numB2_lt (bs.getD 6 0) (bs.getD 7 0); rw [hH, hiB]; omega
  have ES : stamp6 bs = (H : Int) % 4096 + (M : Int) * 4096 + (L : Int) * 268435456 := by rw [stamp6, hL, hM, hH]
  rw [ES]
  have an := u64_and12 (H : Int) (by omega) (by omega)
  have o1 := bits_join_low .u64 64 (by decide) wraps_u64 12 ((H : Int) % 4096) ((M : Int) * 4096) (by omega) (by omega) (by omega) (by omega) (by omega) (by omega)
  have o2 := bits_join_low .u64 64 (by decide) wraps_u64 28 ((H : Int) % 4096 + (M : Int) * 4096) ((L : Int) * 268435456) (by omega) (by omega) (by omega) (by omega) (by omega) (by omega)
  have z4 : (4 : Nat) ≤ c := by omega
  have z6 : (6 : Nat) ≤ c := by omega
  have z8 : (8 : Nat) ≤ c := by omega
  have Q1 := Lib.hid q1
  have Q2 := Lib.hid q2
  have Q3 := Lib.hid q3
  have AN := Lib.hid an
  have O1 := Lib.hid o1
  have O2 := Lib.hid o2
  clear q1 q2 q3 an o1 o2
  clear hbs hx hL hM hH ES hb hcell t1 t2 t3
  go_enter Try.func16, Try.ntmps16
  go_wp2_with fail
  have n1 : ∀ n, Calls Try.prog 34 #[.slice (some ⟨b, off, none⟩) 4 c] (w.drewN n) fun e w'' => e = .returned (.int .u64 (L : Int)) ∧ ∃ m, w'' = w.drewN m := N1.out
  have n2 : ∀ n, Calls Try.prog 34 #[.slice (some ⟨b, off + 4, none⟩) 2 (c - 4)] (w.drewN n) fun e w'' => e = .returned (.int .u64 (M : Int)) ∧ ∃ m, w'' = w.drewN m := N2.out
  have n3 : ∀ n, Calls Try.prog 34 #[.slice (some ⟨b, off + 6, none⟩) 2 (c - 6)] (w.drewN n) fun e w'' => e = .returned (.int .u64 (H : Int)) ∧ ∃ m, w'' = w.drewN m := N3.out
  have M1 := Lib.hid n1
  have M2 := Lib.hid n2
  have M3 := Lib.hid n3
  clear n1 n2 n3
  go_quiet (first | (go_at_call 34; with_reducible exact M1.out _) | (go_at_call 34; with_reducible exact M2.out _) | (go_at_call 34; with_reducible exact M3.out _))
  go_wp2
  go_ret
  refine ⟨congrArg (fun n => Ending.returned (.int .u64 n)) ?_, below_drewN (Below.refl _ _) _⟩
  rw [AN.out, u64_wrap_id _ (by omega) (by have := Q2.out; omega), O1.out, u64_wrap_id _ (by omega) (by have := Q1.out; omega), O2.out]
set_option maxRecDepth 100000 in
theorem stamp_7 (A : Option Addr) (c : Nat) (hc : 16 ≤ c) (bs : List UInt8) (hbs : bs.length = 16) (x : UInt8) (hx : bs.getD 6 0 = x) (hv : (x.toNat : Int) / 16 = 7) (w : World) (hb : Byt w A bs) :
    Calls Try.prog 16 #[.slice A 16 c] w fun e w' => e = .returned (.int .u64 (stamp7 bs)) ∧ Below w.heap.size w w' := by
  obtain ⟨b, off, rfl, -, hcell⟩ := id hb (by omega)
  have cx : w.cell? ⟨b, off + 6, none⟩ = some (.int .u8 (x.toNat : Int)) := by rw [hcell 6 (by omega), ← hx]; simp [B8, List.getD, show 6 < bs.length by omega]
  obtain ⟨-, -, -, t4⟩ := low_take bs hbs
  obtain ⟨L, hL⟩ : ∃ L, L = lowU bs * 65536 + midB bs := ⟨_, rfl⟩
  have q1 : (L : Int) < 281474976710656 := by
    have := numB4_lt (bs.getD 0 0) (bs.getD 1 0) (bs.getD 2 0) (bs.getD 3 0)
    have := numB2_lt (bs.getD 4 0) (bs.getD 5 0)
    rw [hL, lowU, midB]; omega
  have ES : stamp7 bs = (L : Int) * 10000 + 122192928000000000 := by rw [stamp7, hL]; omega
  have hnum : Calls Try.prog 34 #[.slice (some ⟨b, off, none⟩) 6 c] w fun e w' => e = .returned (.int .u64 (L : Int)) ∧ w' = w := by
    have := number_any (some ⟨b, off, none⟩) 6 c (bs.take 6) (by simp; omega) (by omega) (by omega) w (hb.take 6)
    rw [t4, ← hL] at this
    exact this
  rw [ES]
  have HN := Lib.hid hnum
  have z6 : (6 : Nat) ≤ c := by omega
  clear hbs hx hL ES hb hcell t4 hnum
  go_enter Try.func16, Try.ntmps16
  go_wp2_with fail
  refine HN.out.mono ?_
  rintro e w1 ⟨rfl, rfl⟩
  go_wp2
  go_ret
  exact ⟨rfl, Below.refl _ _⟩
end Go.Proofs.Ytbojjpgekbljfaa
