/-
  The thin package's UuidAt and UuidNow.
-/
import Derived.Test.YtbojjpgekbljfaaAt
import Derived.Test.YtbojjpgekbljfaaTold
namespace Go.Proofs.Ytbojjpgekbljfaa
open Go.RowKit
set_option linter.unusedVariables false
theorem world_build (s n : Int) (A : Option Addr) (k c : Nat) (w : World) : (Instr.build 51 #[(0, .int .i64 s), (1, .int .i64 n), (2, .slice A k c)]).run Try.prog w = .ok (.agg (WorB s n A k c).toArray) w := by kernel_rfl
set_option maxRecDepth 100000 in
set_option maxHeartbeats 400000 in
theorem uuidAt1 {w : World} {sec nano : Int} {N A : Option Addr} {cN n c : Nat} {node ds : List UInt8} (hP : Pre w sec nano N node ds) (hl : ds.length = n) (hc : A = none → c = 0) (hnc : n ≤ c) (hb : Byt w A ds) :
    Calls Try.prog 11 #[.int .i64 1, .int .i64 sec, .int .i64 nano, .slice N 6 cN, .slice A n c] w (ToldC (atB 1 sec nano node ds) w) := by
  have M := Lib.hid (fun q w' => maker_any q A n c ds hl hc hnc w w' hb)
  have LD := Lib.hid (atB_length 1 sec nano node ds hP.hnl hP.d0)
  have AT := Lib.hid (fun w2 q g f (E : Env w w2 g q f sec nano N cN node ds) => at1 hP E)
  have NW := Lib.hid (fun w2 q g f (E : Env w w2 g q f sec nano N cN node ds) => now_any q sec nano (by have := hP.s0; omega) (by have := hP.s1; omega) hP.n0 hP.n1 N 6 cN w2 E.wor)
  obtain ⟨D, hD⟩ : ∃ D, D = atB 1 sec nano node ds := ⟨_, rfl⟩
  obtain ⟨tv, htv⟩ : ∃ tv, tv = TimeV sec nano := ⟨_, rfl⟩
  simp only [← hD, ← htv] at LD AT NW
  rw [← hD]
  clear hl hc hb hP hD htv
  go_enter Try.func11, Try.ntmps11
  go_wp2_with (first
    | (refine wpList_buildC rfl 51 _ #[(0, .int .i64 sec), (1, .int .i64 nano), (2, .slice N 6 cN)] rfl (by rfl) (.agg (WorB sec nano N 6 cN).toArray) (world_build _ _ _ _ _) ?_)
    | (refine wpList_boxed rfl 51 (.tmp 17) rfl (.agg (WorB sec nano N 6 cN).toArray) (WorB sec nano N 6 cN) (by rfl) rfl ?_))
  intro w1 h1
  have H1 := Lib.hid h1
  have B1 := Lib.hid (h1.below (Below.refl w.heap.size w) (Nat.le_refl _))
  clear h1
  obtain ⟨q, hq⟩ : ∃ q, q = w.heap.size := ⟨_, rfl⟩
  have QA := Lib.hid (show At w1 q 51 (WorB sec nano N 6 cN) by rw [hq]; exact H1.out.at_)
  have QS := Lib.hid (show w1.heap.size = q + 1 by rw [hq]; exact H1.out.size)
  have QL := Lib.hid (show w.heap.size = q from hq.symm)
  rw [← hq]
  clear hq
  go_wp2_with fail
  refine (M.out q w1).mono ?_
  rintro e w2 ⟨g, f, rfl, hg, hf, hfg, ag, af, b2⟩
  have s1 := QS.out
  have s2 := QL.out
  have e1 : q ≠ g := by omega
  have e2 : q ≠ f := by omega
  have e3 : w.heap.size ≤ f := by omega
  have e4 : w.heap.size ≤ g := by omega
  have e5 : At w2 q 51 (WorB sec nano N 6 cN) := QA.out.below b2 (by omega)
  have e6 : Below w.heap.size w w2 := B1.out.trans (b2.mono B1.out.size)
  have E2 := Lib.hid (Env.mk (w0 := w) (w := w2) (node := node) (N := N) ag af hfg e5 e1 e2 e6 e3 e4)
  clear hg hf hfg ag af b2 s1 s2 e1 e2 e3 e4 e5 e6
  go_wp2_with fail
  refine (NW.out w2 q g f E2.out).mono ?_
  rintro e w3 ⟨rfl, b3⟩
  have E3 := Lib.hid (E2.out.below b3)
  clear b3
  go_wp2_with fail
  refine (AT.out w3 q g f E3.out).mono ?_
  rintro e w4 ⟨rfl, b4, -⟩
  have B4 := Lib.hid b4
  clear b4
  go_wp2_with fail
  refine (told_cap D LD.out w4).mono ?_
  rintro e w5 ⟨g', cap, rfl, h0, h1, h2, b5⟩
  have B5 := Lib.hid (B4.out.trans (b5.mono B4.out.size))
  have G := Lib.hid (Nat.le_trans B4.out.size h1)
  have H2 := Lib.hid h2
  clear h1 h2 b5
  go_wp2
  go_ret2
  exact ⟨g', cap, rfl, h0, G.out, H2.out, B5.out⟩
set_option maxRecDepth 100000 in
set_option maxHeartbeats 400000 in
theorem uuidNow1 {w : World} {sec nano : Int} {N A : Option Addr} {cN n c : Nat} {node ds : List UInt8} (hP : Pre w sec nano N node ds) (hl : ds.length = n) (hc : A = none → c = 0) (hnc : n ≤ c) (hb : Byt w A ds) :
    Calls Try.prog 14 #[.int .i64 1, .int .i64 sec, .int .i64 nano, .slice N 6 cN, .slice A n c] w (ToldC (atB 1 sec nano node ds) w) := by
  have M := Lib.hid (fun q w' => maker_any q A n c ds hl hc hnc w w' hb)
  have LD := Lib.hid (atB_length 1 sec nano node ds hP.hnl hP.d0)
  have AT := Lib.hid (fun w2 q g f (E : Env w w2 g q f sec nano N cN node ds) => now1 hP E)
  have NW := Lib.hid (fun w2 q g f (E : Env w w2 g q f sec nano N cN node ds) => now_any q sec nano (by have := hP.s0; omega) (by have := hP.s1; omega) hP.n0 hP.n1 N 6 cN w2 E.wor)
  obtain ⟨D, hD⟩ : ∃ D, D = atB 1 sec nano node ds := ⟨_, rfl⟩
  obtain ⟨tv, htv⟩ : ∃ tv, tv = TimeV sec nano := ⟨_, rfl⟩
  simp only [← hD, ← htv] at LD AT NW
  rw [← hD]
  clear hl hc hb hP hD htv
  go_enter Try.func14, Try.ntmps14
  go_wp2_with (first
    | (refine wpList_buildC rfl 51 _ #[(0, .int .i64 sec), (1, .int .i64 nano), (2, .slice N 6 cN)] rfl (by rfl) (.agg (WorB sec nano N 6 cN).toArray) (world_build _ _ _ _ _) ?_)
    | (refine wpList_boxed rfl 51 (.tmp 17) rfl (.agg (WorB sec nano N 6 cN).toArray) (WorB sec nano N 6 cN) (by rfl) rfl ?_))
  intro w1 h1
  have H1 := Lib.hid h1
  have B1 := Lib.hid (h1.below (Below.refl w.heap.size w) (Nat.le_refl _))
  clear h1
  obtain ⟨q, hq⟩ : ∃ q, q = w.heap.size := ⟨_, rfl⟩
  have QA := Lib.hid (show At w1 q 51 (WorB sec nano N 6 cN) by rw [hq]; exact H1.out.at_)
  have QS := Lib.hid (show w1.heap.size = q + 1 by rw [hq]; exact H1.out.size)
  have QL := Lib.hid (show w.heap.size = q from hq.symm)
  rw [← hq]
  clear hq
  go_wp2_with fail
  refine (M.out q w1).mono ?_
  rintro e w2 ⟨g, f, rfl, hg, hf, hfg, ag, af, b2⟩
  have s1 := QS.out
  have s2 := QL.out
  have e1 : q ≠ g := by omega
  have e2 : q ≠ f := by omega
  have e3 : w.heap.size ≤ f := by omega
  have e4 : w.heap.size ≤ g := by omega
  have e5 : At w2 q 51 (WorB sec nano N 6 cN) := QA.out.below b2 (by omega)
  have e6 : Below w.heap.size w w2 := B1.out.trans (b2.mono B1.out.size)
  have E2 := Lib.hid (Env.mk (w0 := w) (w := w2) (node := node) (N := N) ag af hfg e5 e1 e2 e6 e3 e4)
  clear hg hf hfg ag af b2 s1 s2 e1 e2 e3 e4 e5 e6
  go_wp2_with fail
  refine (AT.out w2 q g f E2.out).mono ?_
  rintro e w4 ⟨rfl, b4, -⟩
  have B4 := Lib.hid b4
  clear b4
  go_wp2_with fail
  refine (told_cap D LD.out w4).mono ?_
  rintro e w5 ⟨g', cap, rfl, h0, h1, h2, b5⟩
  have B5 := Lib.hid (B4.out.trans (b5.mono B4.out.size))
  have G := Lib.hid (Nat.le_trans B4.out.size h1)
  have H2 := Lib.hid h2
  clear h1 h2 b5
  go_wp2
  go_ret2
  exact ⟨g', cap, rfl, h0, G.out, H2.out, B5.out⟩
set_option maxRecDepth 100000 in
set_option maxHeartbeats 400000 in
theorem uuidAt6 {w : World} {sec nano : Int} {N A : Option Addr} {cN n c : Nat} {node ds : List UInt8} (hP : Pre w sec nano N node ds) (hl : ds.length = n) (hc : A = none → c = 0) (hnc : n ≤ c) (hb : Byt w A ds) :
    Calls Try.prog 11 #[.int .i64 6, .int .i64 sec, .int .i64 nano, .slice N 6 cN, .slice A n c] w (ToldC (atB 6 sec nano node ds) w) := by
  have M := Lib.hid (fun q w' => maker_any q A n c ds hl hc hnc w w' hb)
  have LD := Lib.hid (atB_length 6 sec nano node ds hP.hnl hP.d0)
  have AT := Lib.hid (fun w2 q g f (E : Env w w2 g q f sec nano N cN node ds) => at6 hP E)
  have NW := Lib.hid (fun w2 q g f (E : Env w w2 g q f sec nano N cN node ds) => now_any q sec nano (by have := hP.s0; omega) (by have := hP.s1; omega) hP.n0 hP.n1 N 6 cN w2 E.wor)
  obtain ⟨D, hD⟩ : ∃ D, D = atB 6 sec nano node ds := ⟨_, rfl⟩
  obtain ⟨tv, htv⟩ : ∃ tv, tv = TimeV sec nano := ⟨_, rfl⟩
  simp only [← hD, ← htv] at LD AT NW
  rw [← hD]
  clear hl hc hb hP hD htv
  go_enter Try.func11, Try.ntmps11
  go_wp2_with (first
    | (refine wpList_buildC rfl 51 _ #[(0, .int .i64 sec), (1, .int .i64 nano), (2, .slice N 6 cN)] rfl (by rfl) (.agg (WorB sec nano N 6 cN).toArray) (world_build _ _ _ _ _) ?_)
    | (refine wpList_boxed rfl 51 (.tmp 17) rfl (.agg (WorB sec nano N 6 cN).toArray) (WorB sec nano N 6 cN) (by rfl) rfl ?_))
  intro w1 h1
  have H1 := Lib.hid h1
  have B1 := Lib.hid (h1.below (Below.refl w.heap.size w) (Nat.le_refl _))
  clear h1
  obtain ⟨q, hq⟩ : ∃ q, q = w.heap.size := ⟨_, rfl⟩
  have QA := Lib.hid (show At w1 q 51 (WorB sec nano N 6 cN) by rw [hq]; exact H1.out.at_)
  have QS := Lib.hid (show w1.heap.size = q + 1 by rw [hq]; exact H1.out.size)
  have QL := Lib.hid (show w.heap.size = q from hq.symm)
  rw [← hq]
  clear hq
  go_wp2_with fail
  refine (M.out q w1).mono ?_
  rintro e w2 ⟨g, f, rfl, hg, hf, hfg, ag, af, b2⟩
  have s1 := QS.out
  have s2 := QL.out
  have e1 : q ≠ g := by omega
  have e2 : q ≠ f := by omega
  have e3 : w.heap.size ≤ f := by omega
  have e4 : w.heap.size ≤ g := by omega
  have e5 : At w2 q 51 (WorB sec nano N 6 cN) := QA.out.below b2 (by omega)
  have e6 : Below w.heap.size w w2 := B1.out.trans (b2.mono B1.out.size)
  have E2 := Lib.hid (Env.mk (w0 := w) (w := w2) (node := node) (N := N) ag af hfg e5 e1 e2 e6 e3 e4)
  clear hg hf hfg ag af b2 s1 s2 e1 e2 e3 e4 e5 e6
  go_wp2_with fail
  refine (NW.out w2 q g f E2.out).mono ?_
  rintro e w3 ⟨rfl, b3⟩
  have E3 := Lib.hid (E2.out.below b3)
  clear b3
  go_wp2_with fail
  refine (AT.out w3 q g f E3.out).mono ?_
  rintro e w4 ⟨rfl, b4, -⟩
  have B4 := Lib.hid b4
  clear b4
  go_wp2_with fail
  refine (told_cap D LD.out w4).mono ?_
  rintro e w5 ⟨g', cap, rfl, h0, h1, h2, b5⟩
  have B5 := Lib.hid (B4.out.trans (b5.mono B4.out.size))
  have G := Lib.hid (Nat.le_trans B4.out.size h1)
  have H2 := Lib.hid h2
  clear h1 h2 b5
  go_wp2
  go_ret2
  exact ⟨g', cap, rfl, h0, G.out, H2.out, B5.out⟩
set_option maxRecDepth 100000 in
set_option maxHeartbeats 400000 in
theorem uuidNow6 {w : World} {sec nano : Int} {N A : Option Addr} {cN n c : Nat} {node ds : List UInt8} (hP : Pre w sec nano N node ds) (hl : ds.length = n) (hc : A = none → c = 0) (hnc : n ≤ c) (hb : Byt w A ds) :
    Calls Try.prog 14 #[.int .i64 6, .int .i64 sec, .int .i64 nano, .slice N 6 cN, .slice A n c] w (ToldC (atB 6 sec nano node ds) w) := by
  have M := Lib.hid (fun q w' => maker_any q A n c ds hl hc hnc w w' hb)
  have LD := Lib.hid (atB_length 6 sec nano node ds hP.hnl hP.d0)
  have AT := Lib.hid (fun w2 q g f (E : Env w w2 g q f sec nano N cN node ds) => now6 hP E)
  have NW := Lib.hid (fun w2 q g f (E : Env w w2 g q f sec nano N cN node ds) => now_any q sec nano (by have := hP.s0; omega) (by have := hP.s1; omega) hP.n0 hP.n1 N 6 cN w2 E.wor)
  obtain ⟨D, hD⟩ : ∃ D, D = atB 6 sec nano node ds := ⟨_, rfl⟩
  obtain ⟨tv, htv⟩ : ∃ tv, tv = TimeV sec nano := ⟨_, rfl⟩
  simp only [← hD, ← htv] at LD AT NW
  rw [← hD]
  clear hl hc hb hP hD htv
  go_enter Try.func14, Try.ntmps14
  go_wp2_with (first
    | (refine wpList_buildC rfl 51 _ #[(0, .int .i64 sec), (1, .int .i64 nano), (2, .slice N 6 cN)] rfl (by rfl) (.agg (WorB sec nano N 6 cN).toArray) (world_build _ _ _ _ _) ?_)
    | (refine wpList_boxed rfl 51 (.tmp 17) rfl (.agg (WorB sec nano N 6 cN).toArray) (WorB sec nano N 6 cN) (by rfl) rfl ?_))
  intro w1 h1
  have H1 := Lib.hid h1
  have B1 := Lib.hid (h1.below (Below.refl w.heap.size w) (Nat.le_refl _))
  clear h1
  obtain ⟨q, hq⟩ : ∃ q, q = w.heap.size := ⟨_, rfl⟩
  have QA := Lib.hid (show At w1 q 51 (WorB sec nano N 6 cN) by rw [hq]; exact H1.out.at_)
  have QS := Lib.hid (show w1.heap.size = q + 1 by rw [hq]; exact H1.out.size)
  have QL := Lib.hid (show w.heap.size = q from hq.symm)
  rw [← hq]
  clear hq
  go_wp2_with fail
  refine (M.out q w1).mono ?_
  rintro e w2 ⟨g, f, rfl, hg, hf, hfg, ag, af, b2⟩
  have s1 := QS.out
  have s2 := QL.out
  have e1 : q ≠ g := by omega
  have e2 : q ≠ f := by omega
  have e3 : w.heap.size ≤ f := by omega
  have e4 : w.heap.size ≤ g := by omega
  have e5 : At w2 q 51 (WorB sec nano N 6 cN) := QA.out.below b2 (by omega)
  have e6 : Below w.heap.size w w2 := B1.out.trans (b2.mono B1.out.size)
  have E2 := Lib.hid (Env.mk (w0 := w) (w := w2) (node := node) (N := N) ag af hfg e5 e1 e2 e6 e3 e4)
  clear hg hf hfg ag af b2 s1 s2 e1 e2 e3 e4 e5 e6
  go_wp2_with fail
  refine (AT.out w2 q g f E2.out).mono ?_
  rintro e w4 ⟨rfl, b4, -⟩
  have B4 := Lib.hid b4
  clear b4
  go_wp2_with fail
  refine (told_cap D LD.out w4).mono ?_
  rintro e w5 ⟨g', cap, rfl, h0, h1, h2, b5⟩
  have B5 := Lib.hid (B4.out.trans (b5.mono B4.out.size))
  have G := Lib.hid (Nat.le_trans B4.out.size h1)
  have H2 := Lib.hid h2
  clear h1 h2 b5
  go_wp2
  go_ret2
  exact ⟨g', cap, rfl, h0, G.out, H2.out, B5.out⟩
set_option maxRecDepth 100000 in
set_option maxHeartbeats 400000 in
theorem uuidAt7 {w : World} {sec nano : Int} {N A : Option Addr} {cN n c : Nat} {node ds : List UInt8} (hP : Pre w sec nano N node ds) (hl : ds.length = n) (hc : A = none → c = 0) (hnc : n ≤ c) (hb : Byt w A ds) :
    Calls Try.prog 11 #[.int .i64 7, .int .i64 sec, .int .i64 nano, .slice N 6 cN, .slice A n c] w (ToldC (atB 7 sec nano node ds) w) := by
  have M := Lib.hid (fun q w' => maker_any q A n c ds hl hc hnc w w' hb)
  have LD := Lib.hid (atB_length 7 sec nano node ds hP.hnl hP.d0)
  have AT := Lib.hid (fun w2 q g f (E : Env w w2 g q f sec nano N cN node ds) => at7 hP E)
  have NW := Lib.hid (fun w2 q g f (E : Env w w2 g q f sec nano N cN node ds) => now_any q sec nano (by have := hP.s0; omega) (by have := hP.s1; omega) hP.n0 hP.n1 N 6 cN w2 E.wor)
  obtain ⟨D, hD⟩ : ∃ D, D = atB 7 sec nano node ds := ⟨_, rfl⟩
  obtain ⟨tv, htv⟩ : ∃ tv, tv = TimeV sec nano := ⟨_, rfl⟩
  simp only [← hD, ← htv] at LD AT NW
  rw [← hD]
  clear hl hc hb hP hD htv
  go_enter Try.func11, Try.ntmps11
  go_wp2_with (first
    | (refine wpList_buildC rfl 51 _ #[(0, .int .i64 sec), (1, .int .i64 nano), (2, .slice N 6 cN)] rfl (by rfl) (.agg (WorB sec nano N 6 cN).toArray) (world_build _ _ _ _ _) ?_)
    | (refine wpList_boxed rfl 51 (.tmp 17) rfl (.agg (WorB sec nano N 6 cN).toArray) (WorB sec nano N 6 cN) (by rfl) rfl ?_))
  intro w1 h1
  have H1 := Lib.hid h1
  have B1 := Lib.hid (h1.below (Below.refl w.heap.size w) (Nat.le_refl _))
  clear h1
  obtain ⟨q, hq⟩ : ∃ q, q = w.heap.size := ⟨_, rfl⟩
  have QA := Lib.hid (show At w1 q 51 (WorB sec nano N 6 cN) by rw [hq]; exact H1.out.at_)
  have QS := Lib.hid (show w1.heap.size = q + 1 by rw [hq]; exact H1.out.size)
  have QL := Lib.hid (show w.heap.size = q from hq.symm)
  rw [← hq]
  clear hq
  go_wp2_with fail
  refine (M.out q w1).mono ?_
  rintro e w2 ⟨g, f, rfl, hg, hf, hfg, ag, af, b2⟩
  have s1 := QS.out
  have s2 := QL.out
  have e1 : q ≠ g := by omega
  have e2 : q ≠ f := by omega
  have e3 : w.heap.size ≤ f := by omega
  have e4 : w.heap.size ≤ g := by omega
  have e5 : At w2 q 51 (WorB sec nano N 6 cN) := QA.out.below b2 (by omega)
  have e6 : Below w.heap.size w w2 := B1.out.trans (b2.mono B1.out.size)
  have E2 := Lib.hid (Env.mk (w0 := w) (w := w2) (node := node) (N := N) ag af hfg e5 e1 e2 e6 e3 e4)
  clear hg hf hfg ag af b2 s1 s2 e1 e2 e3 e4 e5 e6
  go_wp2_with fail
  refine (NW.out w2 q g f E2.out).mono ?_
  rintro e w3 ⟨rfl, b3⟩
  have E3 := Lib.hid (E2.out.below b3)
  clear b3
  go_wp2_with fail
  refine (AT.out w3 q g f E3.out).mono ?_
  rintro e w4 ⟨rfl, b4, -⟩
  have B4 := Lib.hid b4
  clear b4
  go_wp2_with fail
  refine (told_cap D LD.out w4).mono ?_
  rintro e w5 ⟨g', cap, rfl, h0, h1, h2, b5⟩
  have B5 := Lib.hid (B4.out.trans (b5.mono B4.out.size))
  have G := Lib.hid (Nat.le_trans B4.out.size h1)
  have H2 := Lib.hid h2
  clear h1 h2 b5
  go_wp2
  go_ret2
  exact ⟨g', cap, rfl, h0, G.out, H2.out, B5.out⟩
set_option maxRecDepth 100000 in
set_option maxHeartbeats 400000 in
theorem uuidNow7 {w : World} {sec nano : Int} {N A : Option Addr} {cN n c : Nat} {node ds : List UInt8} (hP : Pre w sec nano N node ds) (hl : ds.length = n) (hc : A = none → c = 0) (hnc : n ≤ c) (hb : Byt w A ds) :
    Calls Try.prog 14 #[.int .i64 7, .int .i64 sec, .int .i64 nano, .slice N 6 cN, .slice A n c] w (ToldC (atB 7 sec nano node ds) w) := by
  have M := Lib.hid (fun q w' => maker_any q A n c ds hl hc hnc w w' hb)
  have LD := Lib.hid (atB_length 7 sec nano node ds hP.hnl hP.d0)
  have AT := Lib.hid (fun w2 q g f (E : Env w w2 g q f sec nano N cN node ds) => now7 hP E)
  have NW := Lib.hid (fun w2 q g f (E : Env w w2 g q f sec nano N cN node ds) => now_any q sec nano (by have := hP.s0; omega) (by have := hP.s1; omega) hP.n0 hP.n1 N 6 cN w2 E.wor)
  obtain ⟨D, hD⟩ : ∃ D, D = atB 7 sec nano node ds := ⟨_, rfl⟩
  obtain ⟨tv, htv⟩ : ∃ tv, tv = TimeV sec nano := ⟨_, rfl⟩
  simp only [← hD, ← htv] at LD AT NW
  rw [← hD]
  clear hl hc hb hP hD htv
  go_enter Try.func14, Try.ntmps14
  go_wp2_with (first
    | (refine wpList_buildC rfl 51 _ #[(0, .int .i64 sec), (1, .int .i64 nano), (2, .slice N 6 cN)] rfl (by rfl) (.agg (WorB sec nano N 6 cN).toArray) (world_build _ _ _ _ _) ?_)
    | (refine wpList_boxed rfl 51 (.tmp 17) rfl (.agg (WorB sec nano N 6 cN).toArray) (WorB sec nano N 6 cN) (by rfl) rfl ?_))
  intro w1 h1
  have H1 := Lib.hid h1
  have B1 := Lib.hid (h1.below (Below.refl w.heap.size w) (Nat.le_refl _))
  clear h1
  obtain ⟨q, hq⟩ : ∃ q, q = w.heap.size := ⟨_, rfl⟩
  have QA := Lib.hid (show At w1 q 51 (WorB sec nano N 6 cN) by rw [hq]; exact H1.out.at_)
  have QS := Lib.hid (show w1.heap.size = q + 1 by rw [hq]; exact H1.out.size)
  have QL := Lib.hid (show w.heap.size = q from hq.symm)
  rw [← hq]
  clear hq
  go_wp2_with fail
  refine (M.out q w1).mono ?_
  rintro e w2 ⟨g, f, rfl, hg, hf, hfg, ag, af, b2⟩
  have s1 := QS.out
  have s2 := QL.out
  have e1 : q ≠ g := by omega
  have e2 : q ≠ f := by omega
  have e3 : w.heap.size ≤ f := by omega
  have e4 : w.heap.size ≤ g := by omega
  have e5 : At w2 q 51 (WorB sec nano N 6 cN) := QA.out.below b2 (by omega)
  have e6 : Below w.heap.size w w2 := B1.out.trans (b2.mono B1.out.size)
  have E2 := Lib.hid (Env.mk (w0 := w) (w := w2) (node := node) (N := N) ag af hfg e5 e1 e2 e6 e3 e4)
  clear hg hf hfg ag af b2 s1 s2 e1 e2 e3 e4 e5 e6
  go_wp2_with fail
  refine (AT.out w2 q g f E2.out).mono ?_
  rintro e w4 ⟨rfl, b4, -⟩
  have B4 := Lib.hid b4
  clear b4
  go_wp2_with fail
  refine (told_cap D LD.out w4).mono ?_
  rintro e w5 ⟨g', cap, rfl, h0, h1, h2, b5⟩
  have B5 := Lib.hid (B4.out.trans (b5.mono B4.out.size))
  have G := Lib.hid (Nat.le_trans B4.out.size h1)
  have H2 := Lib.hid h2
  clear h1 h2 b5
  go_wp2
  go_ret2
  exact ⟨g', cap, rfl, h0, G.out, H2.out, B5.out⟩
set_option maxRecDepth 100000 in
set_option maxHeartbeats 400000 in
theorem uuidAt_no {w : World} {v sec nano : Int} {N A : Option Addr} {nN cN n c : Nat} {ds : List UInt8} (h1 : (v == 1) = false) (h6 : (v == 6) = false) (h7 : (v == 7) = false) (hl : ds.length = n) (hc : A = none → c = 0) (hnc : n ≤ c) (hb : Byt w A ds) :
    Calls Try.prog 11 #[.int .i64 v, .int .i64 sec, .int .i64 nano, .slice N nN cN, .slice A n c] w fun e w' => e = .returned (.tuple #[.slice none 0 0, .bool false]) ∧ Below w.heap.size w w' := by
  have M := Lib.hid (fun q w' => maker_any q A n c ds hl hc hnc w w' hb)
  clear hl hc hb
  go_enter Try.func11, Try.ntmps11
  go_wp2_with (first
    | (refine wpList_buildC rfl 51 _ #[(0, .int .i64 sec), (1, .int .i64 nano), (2, .slice N nN cN)] rfl (by rfl) (.agg (WorB sec nano N nN cN).toArray) (world_build _ _ _ _ _) ?_)
    | (refine wpList_boxed rfl 51 (.tmp 17) rfl (.agg (WorB sec nano N nN cN).toArray) (WorB sec nano N nN cN) (by rfl) rfl ?_))
  intro w1 h1
  have B1 := Lib.hid (h1.below (Below.refl w.heap.size w) (Nat.le_refl _))
  clear h1
  go_wp2_with fail
  refine (M.out w.heap.size w1).mono ?_
  rintro e w2 ⟨g, f, rfl, -, -, -, -, -, b2⟩
  have B2 := Lib.hid (B1.out.trans (b2.mono B1.out.size))
  clear b2
  go_wp2
  go_ret2
  exact ⟨rfl, B2.out⟩
set_option maxRecDepth 100000 in
set_option maxHeartbeats 400000 in
theorem uuidNow_no {w : World} {v sec nano : Int} {N A : Option Addr} {nN cN n c : Nat} {ds : List UInt8} (h1 : (v == 1) = false) (h6 : (v == 6) = false) (h7 : (v == 7) = false) (hl : ds.length = n) (hc : A = none → c = 0) (hnc : n ≤ c) (hb : Byt w A ds) :
    Calls Try.prog 14 #[.int .i64 v, .int .i64 sec, .int .i64 nano, .slice N nN cN, .slice A n c] w fun e w' => e = .returned (.tuple #[.slice none 0 0, .bool false]) ∧ Below w.heap.size w w' := by
  have M := Lib.hid (fun q w' => maker_any q A n c ds hl hc hnc w w' hb)
  clear hl hc hb
  go_enter Try.func14, Try.ntmps14
  go_wp2_with (first
    | (refine wpList_buildC rfl 51 _ #[(0, .int .i64 sec), (1, .int .i64 nano), (2, .slice N nN cN)] rfl (by rfl) (.agg (WorB sec nano N nN cN).toArray) (world_build _ _ _ _ _) ?_)
    | (refine wpList_boxed rfl 51 (.tmp 17) rfl (.agg (WorB sec nano N nN cN).toArray) (WorB sec nano N nN cN) (by rfl) rfl ?_))
  intro w1 h1
  have B1 := Lib.hid (h1.below (Below.refl w.heap.size w) (Nat.le_refl _))
  clear h1
  go_wp2_with fail
  refine (M.out w.heap.size w1).mono ?_
  rintro e w2 ⟨g, f, rfl, -, -, -, -, -, b2⟩
  have B2 := Lib.hid (B1.out.trans (b2.mono B1.out.size))
  clear b2
  go_wp2
  go_ret2
  exact ⟨rfl, B2.out⟩
end Go.Proofs.Ytbojjpgekbljfaa
