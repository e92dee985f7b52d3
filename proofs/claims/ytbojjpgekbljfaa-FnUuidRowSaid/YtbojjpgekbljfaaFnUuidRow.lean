/-
  The walk of FnUuidRow.
-/
import Derived.Test.YtbojjpgekbljfaaUuidRow
import Derived.Test.YtbojjpgekbljfaaRow
namespace Go.Proofs.Ytbojjpgekbljfaa
open Go.RowKit
set_option linter.unusedVariables false
def RetTrue (w : World) (e : Ending) (w' : World) : Prop := e = .returned (.bool true) ∧ Below w.heap.size w w'
theorem nats_of' (zs : List Int) (h : ∀ j, j < zs.length → 0 ≤ zs.getD j 0 ∧ zs.getD j 0 ≤ 4102444800000) : ∃ ts : List Nat, zs = ts.map (fun (s : Nat) => (s : Int)) ∧ ts.length = zs.length ∧ ∀ j, ts.getD j 0 ≤ 4102444800000 := by
  refine ⟨zs.map Int.toNat, ?_, by simp, fun j => ?_⟩
  · apply List.ext_getElem
    · simp
    · intro i h1 h2
      have := h i h1
      simp [List.getD, h1] at this
      simp
      omega
  · rcases Nat.lt_or_ge j zs.length with hj | hj
    · have := h j hj
      simp [List.getD, hj] at this ⊢
      omega
    · simp [List.getD, hj]
theorem rowS_bytes (ts : List Nat) (s : VS) (n j : Nat) (L : List UInt8) (h : (rowS ts s n)[j]? = some L) : (L.getD 6 0).toNat / 16 = 7 ∧ (L.getD 8 0).toNat / 64 = 2 := by
  obtain ⟨-, rfl⟩ := rowS_get ts s n j L h
  refine ⟨?_, var_hi _⟩
  show (setVer _ 7).toNat / 16 = 7
  rw [ver7]; omega
set_option maxRecDepth 100000 in
set_option maxHeartbeats 2000000 in
theorem urow_main (zs : List Int) (n : Nat) (hn : zs.length = n) (h12 : n ≤ 12) (T : Option Addr) (cT : Nat) (A : Option Addr) (m c : Nat) (ds : List UInt8) (hl : ds.length = m) (hm : 400 ≤ m) (hm2 : m ≤ 1000) (hc : A = none → c = 0) (hmc : m ≤ c) (w : World) (hT : I64s w T zs) (hb : Byt w A ds) :
    Calls Try.prog 7 #[.slice T n cT, .slice A m c] w (RetTrue w) := by
  have HN := Lib.hid hn
  have HT := Lib.hid hT
  have H12 := Lib.hid h12
  have UR := Lib.hid (fun ts k (h1 : List.length ts = k) h2 h3 h4 => uuidRow_any ts k h1 h2 h3 T cT A m c ds hl hm hm2 hc hmc w h4 hb)
  have HD := Lib.hid (show 400 ≤ ds.length by omega)
  have d1 : decide ((2147483647 : Int) < (n : Int)) = false := by simp; omega
  have d2 : decide ((12 : Int) < (n : Int)) = false := by simp; omega
  have ni : (n : Int) ≤ 12 := by omega
  have z4 : ¬ (m : Int) < 400 := by omega
  clear hn hT hl hc hb h12
  go_enter Try.func7, Try.ntmps7
  go_wp2
  clear d1 d2
  go_loop [34] (fun i => ∃ k : Nat, k ≤ n ∧ i = .int .i64 k ∧ ∀ j, j < k → 0 ≤ zs.getD j 0 ∧ zs.getD j 0 ≤ 4102444800000) (fun i => n - (intOf i).toNat)
  case atStart => exact ⟨0, by omega, rfl, fun j hj => by omega⟩
  case round =>
    obtain ⟨k, hk, rfl, hgood⟩ := hrel
    have HG := Lib.hid hgood
    clear hgood
    by_cases hlt : k < n
    · have lk : k < zs.length := by rw [HN.out]; exact hlt
      obtain ⟨b, off, hTe, hlb, hcell⟩ := HT.out (by omega)
      subst hTe
      obtain ⟨z, hz⟩ : ∃ z, z = zs[k] := ⟨_, rfl⟩
      have cz : w.cell? ⟨b, off + k, none⟩ = some (.int .i64 z) := by rw [hcell k lk, hz]
      have EZ := Lib.hid (show zs.getD k 0 = z by rw [hz]; simp [List.getD, lk])
      have q1 : (k : Int) < (n : Int) := by omega
      clear hcell hz
      by_cases h1 : z < 0
      · have t1 : decide (z < 0) = true := decide_eq_true h1
        go_wp2
        go_ret
        exact ⟨rfl, Below.refl _ _⟩
      · have t1 : decide (z < 0) = false := decide_eq_false h1
        by_cases h2 : 4102444800000 < z
        · have t2 : decide (4102444800000 < z) = true := decide_eq_true h2
          go_wp2
          go_ret
          exact ⟨rfl, Below.refl _ _⟩
        · have t2 : decide (4102444800000 < z) = false := decide_eq_false h2
          have G1 := Lib.hid (show ∀ j, j < k + 1 → 0 ≤ zs.getD j 0 ∧ zs.getD j 0 ≤ 4102444800000 from fun j hj => by
            rcases Nat.lt_or_ge j k with h | h
            · exact HG.out j h
            · obtain rfl : j = k := by omega
              rw [EZ.out]; omega)
          go_wp2
          go_round
          case rel => exact ⟨k + 1, by omega, by go_num, G1.out⟩
          case measure => simp [intOf]; omega
    · obtain rfl : k = n := by omega
      clear hlt hk
      obtain ⟨ts, hss, ls, s3⟩ := nats_of' zs (by rw [HN.out]; exact HG.out)
      rw [HN.out] at ls
      have XR := Lib.hid (UR.out ts k ls H12.out s3 (hss ▸ HT.out))
      have LA := Lib.hid (rowS_all ts ds 4102444800000 s3 k H12.out HD.out)
      have LAS := Lib.hid (rowS_ascend ts ds 4102444800000 s3 (by omega) k H12.out HD.out)
      clear hss ls s3
      go_wp2_with fail
      refine XR.out.mono ?_
      rintro e w1 ⟨v, rfl, rows, b1⟩
      obtain ⟨A', cap', hv⟩ := rows.slice
      subst hv
      have R1 := Lib.hid rows
      have B1 := Lib.hid b1
      clear rows b1
      go_wp2_with fail
      refine (rising_any w.heap.size _ k (by omega) 16 (by omega) (rowS ts (s0 ds) k) LA.out LAS.out w1 R1.out).mono ?_
      rintro e w2 ⟨rfl, b2⟩
      have R2 := Lib.hid (R1.out.below b2)
      have B2 := Lib.hid (B1.out.trans (b2.mono B1.out.size))
      clear b2
      go_wp2
      go_loopw [67] (fun i wr => ∃ j : Nat, j ≤ k ∧ i = .int .i64 j ∧ RowsB wr w.heap.size (.slice A' k cap') k (rowS ts (s0 ds) k) ∧ Below w.heap.size w wr) (fun i _ => k - (intOf i).toNat)
      case atStart => exact ⟨0, by omega, rfl, R2.out, B2.out⟩
      case round =>
        obtain ⟨j, hj, rfl, hrow, hbel⟩ := hrel
        by_cases hlt : j < k
        · obtain ⟨b, cap, hv, -, hcell⟩ := hrow.cell (by omega)
          injection hv with hv1 hv2 hv3
          subst hv1
          have jl : j < (rowS ts (s0 ds) k).length := by rw [rowS_length]; exact hlt
          obtain ⟨L, hL⟩ : ∃ L, (rowS ts (s0 ds) k)[j]? = some L := ⟨_, List.getElem?_eq_getElem jl⟩
          obtain ⟨u, cu, iu⟩ := hcell j L hL
          obtain ⟨g', cap2, eu, -, -, byu⟩ := iu.byt
          have LL := Lib.hid (LA.out L (List.mem_of_getElem? hL))
          obtain ⟨p1, p2⟩ := rowS_bytes ts (s0 ds) k j L hL
          obtain ⟨x, hx⟩ : ∃ x, x = L.getD 6 0 := ⟨_, rfl⟩
          rw [← hx] at p1
          have k6 : wr.cell? ⟨g', 6, none⟩ = some (.int .u8 (x.toNat : Int)) := by
            obtain ⟨b', off', e', -, hc'⟩ := byu (by rw [LL.out]; omega)
            injection e' with e'
            injection e' with e1 e2
            subst e1 e2
            have h := hc' 6 (by rw [LL.out]; omega)
            rw [Nat.zero_add] at h
            rw [h, hx]
            simp [B8, List.getD, show 6 < L.length by rw [LL.out]; omega]
          have VA := Lib.hid (variant_one (some ⟨g', 0, none⟩) 16 cap2 L LL.out rfl _ rfl p2 wr byu)
          subst eu
          rw [LL.out] at cu
          have q1 : (j : Int) < (k : Int) := by omega
          have x7 : (x.toNat : Int) / 16 = 7 := by omega
          have HR := Lib.hid hrow
          have HBe := Lib.hid hbel
          clear hrow hbel hcell iu byu p1 p2 hx hL jl hv2 hv3
          go_wp2_with fail
          refine VA.out.mono ?_
          rintro e w5 ⟨rfl, rfl⟩
          go_wp2
          go_roundw
          case rel => exact ⟨j + 1, by omega, by go_num, HR.out, HBe.out⟩
          case measure => simp [intOf]; omega
        · obtain rfl : j = k := by omega
          have HBe := Lib.hid hbel
          clear hrow hbel
          go_wp2
          go_ret
          exact ⟨rfl, HBe.out⟩
set_option maxRecDepth 100000 in
theorem urow_n (n : Nat) (hn : 12 < n) (T : Option Addr) (cT : Nat) (A : Option Addr) (m c : Nat) (w : World) :
    Calls Try.prog 7 #[.slice T n cT, .slice A m c] w (RetTrue w) := by
  go_enter Try.func7, Try.ntmps7
  go_wp2
  all_goals (first | (exfalso; omega) | (go_ret; exact ⟨rfl, Below.refl _ _⟩))
set_option maxRecDepth 100000 in
theorem urow_m (n : Nat) (hn : n ≤ 12) (T : Option Addr) (cT : Nat) (A : Option Addr) (m c : Nat) (hm : m < 400 ∨ 1000 < m) (w : World) :
    Calls Try.prog 7 #[.slice T n cT, .slice A m c] w (RetTrue w) := by
  have d1 : decide ((2147483647 : Int) < (n : Int)) = false := by simp; omega
  have d2 : decide ((12 : Int) < (n : Int)) = false := by simp; omega
  rcases hm with h | h
  · have h4 : (m : Int) < 400 := by omega
    go_enter Try.func7, Try.ntmps7
    go_wp2
    all_goals (first | (exfalso; omega) | (go_ret; exact ⟨rfl, Below.refl _ _⟩))
  · by_cases hb : 2147483647 < m
    · have h4 : (2147483647 : Int) < (m : Int) := by omega
      go_enter Try.func7, Try.ntmps7
      go_wp2
      all_goals (first | (exfalso; omega) | (go_ret; exact ⟨rfl, Below.refl _ _⟩))
    · have h4 : (m : Int) ≤ 2147483647 := by omega
      have h5 : ¬ (m : Int) < 400 := by omega
      have h6 : (1000 : Int) < (m : Int) := by omega
      go_enter Try.func7, Try.ntmps7
      go_wp2
      all_goals (first | (exfalso; omega) | (go_ret; exact ⟨rfl, Below.refl _ _⟩))
theorem walk_FnUuidRow (a0 : Option Addr) (len0 cap0 : Nat) (z0 : List Int) (a1 : Option Addr) (len1 cap1 : Nat) (z1 : List Int) (w : World) (w0 : IsRow .i64 w a0 len0 cap0 z0) (w1 : IsRow .u8 w a1 len1 cap1 z1) :
    Calls Try.prog 7 #[.slice a0 len0 cap0, .slice a1 len1 cap1] w fun e w' => e = .returned (.bool true) ∧ Below w.heap.size w w' := by
  obtain ⟨ys, hy, hyb, hyc, hyn⟩ := bytes_of_row w1
  obtain ⟨zs, hz, hzT, -⟩ := nums_of_row w0
  by_cases h12 : len0 ≤ 12
  · by_cases hm : len1 < 400 ∨ 1000 < len1
    · exact urow_m len0 h12 a0 cap0 a1 len1 cap1 hm w
    · exact urow_main zs len0 hz h12 a0 cap0 a1 len1 cap1 ys hy (by omega) (by omega) hyc hyn w hzT hyb
  · exact urow_n len0 (by omega) a0 cap0 a1 len1 cap1 w
end Go.Proofs.Ytbojjpgekbljfaa
