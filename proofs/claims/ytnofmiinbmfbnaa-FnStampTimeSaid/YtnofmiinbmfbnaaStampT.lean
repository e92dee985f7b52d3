/-
  A timestamp's time: what StampTime of the thin package returns.
-/
import Derived.Test.YtnofmiinbmfbnaaTime
import Derived.Deep.RegionHeld3
namespace Go.Proofs.Ytnofmiinbmfbnaa
open Go.RowKit

set_option maxRecDepth 100000 in
theorem timeNano_any (sec nano : Int) (h3 : 0 ≤ nano) (h4 : nano < 1000000000) (w : World) :
    Calls Try.prog 27 #[.agg (TimeV sec nano).toArray] w fun e w' => e = .returned (.int .i64 nano) ∧ Below w.heap.size w w' := by
  obtain ⟨cs, hcs⟩ : ∃ cs, cs = TimeV sec nano := ⟨_, rfl⟩
  rw [← hcs]
  have HC := Lib.hid hcs
  clear hcs
  go_enter Try.func27, Try.ntmps27
  go_wp2_with (refine wpList_boxed rfl 54 (.tmp 0) rfl (.agg cs.toArray) cs (by rfl) rfl ?_)
  intro w1 h1'
  have H1 := Lib.hid h1'
  clear h1'
  go_wp2_with fail
  refine (nsec_any w.heap.size 54 sec nano h3 h4 w1 (HC.out ▸ H1.out.at_)).mono ?_
  rintro e w2 ⟨rfl, rfl⟩
  go_wp2
  go_ret
  exact ⟨rfl, H1.out.below (Below.refl _ _) (Nat.le_refl _)⟩

set_option maxRecDepth 100000 in
theorem stampTime_of (s : Int) (h0 : 0 ≤ s) (h1 : s < 200000000000000000) (w : World) :
    Calls Try.prog 25 #[.int .u64 s] w fun e w' => e = .returned (.tuple #[.agg (TimeV (s / 10000000 - 12219292800) (100 * (s % 10000000))).toArray, .nilIface]) ∧ Below w.heap.size w w' := by
  obtain ⟨cs, hcs⟩ : ∃ cs, cs = TimeV (s / 10000000 - 12219292800) (100 * (s % 10000000)) := ⟨_, rfl⟩
  have HS := Lib.hid (hcs ▸ Try.sizeT (s / 10000000 - 12219292800) (100 * (s % 10000000)))
  have HZ := Lib.hid (show cs.length = 3 by rw [hcs]; rfl)
  have HO := Lib.hid (hcs ▸ TimeV_one (s / 10000000 - 12219292800) (100 * (s % 10000000)))
  have HC := Lib.hid hcs
  rw [← hcs]
  clear hcs
  go_enter Try.func25, Try.ntmps25
  go_wp2_with (refine wpList_var rfl 54 rfl (.agg ZeroT.toArray) ZeroT Try.zeroT rfl ?_)
  intro w1 h1'
  have H1 := Lib.hid h1'
  clear h1'
  go_wp2_with fail
  refine (unix_any (s / 10000000 - 12219292800) (100 * (s % 10000000)) (by omega) (by omega) (by omega) (by omega) w1).mono ?_
  rw [← HC.out]
  rintro e w2 ⟨rfl, b2⟩
  have B2 := Lib.hid b2
  clear b2
  have A2 := Lib.hid (H1.out.at_.below B2.out (by have := H1.out.size; omega))
  go_wp2_with (refine wpList_put rfl 54 (.tmp 2) (.tmp 16) rfl w.heap.size cs (by rfl) (by rfl) 54 ZeroT A2.out HS.out (by rw [HZ.out]; rfl) HO.out ?_)
  intro w3 h3'
  have H3 := Lib.hid h3'
  clear h3'
  go_wp2
  refine ret_cell_tmp 2 54 3 rfl w.heap.size 54 cs _ .nilIface rfl rfl H3.out.at_ Try.underlying54 rfl HS.out rfl ⟨rfl, ?_⟩
  have s1 := H1.out.size
  have s2 := B2.out.size
  exact H3.out.below ((H1.out.below (Below.refl _ _) (Nat.le_refl _)).trans (B2.out.mono (by omega))) (by omega) (Nat.le_refl _)

set_option maxRecDepth 100000 in
set_option maxHeartbeats 2000000 in
theorem implStamp (s sec nano : Int) (h0 : 0 ≤ s) (h1 : s < 200000000000000000) (e1 : s / 10000000 - 12219292800 = sec) (e2 : 100 * (s % 10000000) = nano) (w : World) :
    Calls Try.prog 11 #[.int .u64 s] w fun e w' => e = .returned (.tuple #[.int .i64 sec, .int .i64 nano, .bool true]) ∧ Below w.heap.size w w' := by
  have b1 : -12219292800 ≤ sec := by omega
  have b2 : sec < 10000000000 := by omega
  have b3 : 0 ≤ nano := by omega
  have b4 : nano < 1000000000 := by omega
  have E1 := Lib.hid e1
  have E2 := Lib.hid e2
  clear e1 e2
  obtain ⟨cs, hcs⟩ : ∃ cs, cs = TimeV sec nano := ⟨_, rfl⟩
  have HS := Lib.hid (hcs ▸ Try.sizeT sec nano)
  have HZ := Lib.hid (show cs.length = 3 by rw [hcs]; rfl)
  have HO := Lib.hid (hcs ▸ TimeV_one sec nano)
  have HC := Lib.hid hcs
  clear hcs
  go_enter Try.func11, Try.ntmps11
  go_wp2_with fail
  refine (stampTime_of s h0 h1 w).mono ?_
  rw [E1.out, E2.out, ← HC.out]
  rintro e w1 ⟨rfl, bb1⟩
  have B1 := Lib.hid bb1
  clear bb1
  go_wp2_with (refine wpList_var rfl 54 rfl (.agg ZeroT.toArray) ZeroT Try.zeroT rfl ?_)
  intro w2 h2'
  have H2 := Lib.hid h2'
  clear h2'
  go_wp2_with (refine wpList_put rfl 54 (.tmp 5) (.tmp 10) rfl w1.heap.size cs (by rfl) (by rfl) 54 ZeroT H2.out.at_ HS.out (by rw [HZ.out]; rfl) HO.out ?_)
  intro w3 h3'
  have H3 := Lib.hid h3'
  clear h3'
  have A3 := H3.out.at_
  have lt3 := A3.lt
  rw [HC.out] at A3
  have c0 : w3.cell? ⟨w1.heap.size, 0, none⟩ = some (.int .u64 nano) := A3.time.1
  have c1 : w3.cell? ⟨w1.heap.size, 1, none⟩ = some (.int .i64 (sec + 62135596800)) := A3.time.2
  have c2 : w3.cell? ⟨w1.heap.size, 2, none⟩ = some (.pointer none) := A3.cell 2 (by simp [TimeV])
  clear A3
  have C0 := Lib.hid c0
  have C1 := Lib.hid c1
  have C2 := Lib.hid c2
  go_wp2_with fail
  go_region_with (first
    | (go_at_call 26; refine (timeUnix_any sec nano b1 b2 b3 b4 _).mono ?_; rintro e w' ⟨rfl, hbU⟩; try have d0 := (hbU.cell (p := ⟨w1.heap.size, 0, none⟩) lt3).trans c0; try have d1 := (hbU.cell (p := ⟨w1.heap.size, 1, none⟩) lt3).trans c1; try have d2 := (hbU.cell (p := ⟨w1.heap.size, 2, none⟩) lt3).trans c2)
    | (go_at_call 27; refine (timeNano_any sec nano b3 b4 _).mono ?_; rintro e w' ⟨rfl, hbN⟩; try have d0 := (hbN.cell (p := ⟨w1.heap.size, 0, none⟩) lt3).trans c0; try have d1 := (hbN.cell (p := ⟨w1.heap.size, 1, none⟩) lt3).trans c1; try have d2 := (hbN.cell (p := ⟨w1.heap.size, 2, none⟩) lt3).trans c2))
  all_goals go_wp2
  all_goals go_ret3
  all_goals (refine ⟨rfl, ?_⟩)
  all_goals (have s2 := H2.out.size; have s3 := H3.out.size; have s1 := B1.out.size)
  all_goals (have Bel3 : Below w.heap.size w w3 := H3.out.below (H2.out.below B1.out s1) (by omega) s1)
  all_goals first
    | exact (Bel3.trans ((Below.drew (Below.refl _ w3)).trans (hbU.mono Bel3.size))).trans (hbN.mono (Nat.le_trans Bel3.size hbU.size))
    | exact (Bel3.trans ((Below.drew (Below.refl _ w3)).trans (hbN.mono Bel3.size))).trans (hbU.mono (Nat.le_trans Bel3.size hbN.size))
end Go.Proofs.Ytnofmiinbmfbnaa
