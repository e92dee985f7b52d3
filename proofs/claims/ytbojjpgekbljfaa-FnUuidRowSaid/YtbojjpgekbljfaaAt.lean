/-
  The UUIDs of a time: NewV7AtTime, NewV1, NewV6, NewV7; the thin package's UuidAt and UuidNow.
-/
import Derived.Test.YtbojjpgekbljfaaNewV6
import Derived.Test.YtbojjpgekbljfaaNewV7
import Derived.Test.YtbojjpgekbljfaaNow
namespace Go.Proofs.Ytbojjpgekbljfaa
open Go.RowKit
set_option linter.unusedVariables false
structure Env (w0 w : World) (g q f : Nat) (sec nano : Int) (N : Option Addr) (cN : Nat) (node ds : List UInt8) : Prop where
  at_ : At w g 97 (genB (rdV f) (epV q) (hwV q))
  feed : FeedAt w0 w f ds
  hfg : f ≠ g
  wor : At w q 51 (WorB sec nano N 6 cN)
  hqg : q ≠ g
  hqf : q ≠ f
  h0 : Below w0.heap.size w0 w
  f0 : w0.heap.size ≤ f
  g0 : w0.heap.size ≤ g
structure Pre (w0 : World) (sec nano : Int) (N : Option Addr) (node ds : List UInt8) : Prop where
  hN : Byt w0 N node
  hnl : node.length = 6
  s0 : 0 ≤ sec
  s1 : sec < 4102444800
  n0 : 0 ≤ nano
  n1 : nano < 1000000000
  d0 : 16 ≤ ds.length
  d1 : ds.length ≤ 70000
theorem Env.below {w0 w w' : World} {g q f : Nat} {sec nano : Int} {N : Option Addr} {cN : Nat} {node ds : List UInt8} (h : Env w0 w g q f sec nano N cN node ds) (b : Below w.heap.size w w') : Env w0 w' g q f sec nano N cN node ds :=
  ⟨h.at_.below b h.at_.lt, h.feed.eq (b.block f h.feed.lt), h.hfg, h.wor.below b h.wor.lt, h.hqg, h.hqf, h.h0.trans (b.mono h.h0.size), h.f0, h.g0⟩
def tks (sec nano : Int) : Nat := (122192928000000000 + (sec * 1000000000 + nano) / 100).toNat
def mss (sec nano : Int) : Nat := (sec * 1000 + nano / 1000000).toNat
theorem take8 (ds : List UInt8) (h : 10 ≤ ds.length) : (ds.drop 2).take 8 = ds.getD 2 0 :: (ds.drop 3).take 7 := by
  match ds, h with
  | a :: b :: c :: l, _ => rfl
def atB (k : Nat) (sec nano : Int) (node ds : List UInt8) : List UInt8 :=
  if k = 1 then v1B (tks sec nano % 4294967296) (tks sec nano / 4294967296 % 65536) (tks sec nano / 281474976710656) (numB (ds.take 2)) node
  else if k = 6 then v6B (tks sec nano / 268435456) (tks sec nano / 4096 % 65536) (tks sec nano % 4096) (ds.getD 2 0) ((ds.drop 3).take 7)
  else v7B (mss sec nano) (numB (ds.take 2) % 2048) (ds.getD 2 0) ((ds.drop 3).take 7)
theorem atB_length (k : Nat) (sec nano : Int) (node ds : List UInt8) (hn : node.length = 6) (hd : 16 ≤ ds.length) : (atB k sec nano node ds).length = 16 := by
  unfold atB
  split
  · simp [v1B, hn]
  · split
    · simp [v6B]; omega
    · simp [v7B]; omega
theorem at1 {w0 w : World} {g q f : Nat} {sec nano : Int} {N : Option Addr} {cN : Nat} {node ds : List UInt8} (P : Pre w0 sec nano N node ds) (E : Env w0 w g q f sec nano N cN node ds) :
    Calls Try.prog 26 #[.pointer (some ⟨g, 0, none⟩), .agg (TimeV sec nano).toArray] w (IdOk w0 w g f (atB 1 sec nano node ds)) :=
  newV1_any w0 w g q f sec nano N cN node P.hnl P.hN sec nano P.s0 (by have := P.s1; omega) P.n0 P.n1 (tks sec nano) (by unfold tks; have := P.s0; have := P.n0; omega) _ _ _ rfl rfl rfl ds _ rfl (by have := P.d0; omega) P.d1 E.at_ E.feed E.hfg E.wor E.hqg E.hqf E.h0 E.f0 E.g0
theorem at6 {w0 w : World} {g q f : Nat} {sec nano : Int} {N : Option Addr} {cN : Nat} {node ds : List UInt8} (P : Pre w0 sec nano N node ds) (E : Env w0 w g q f sec nano N cN node ds) :
    Calls Try.prog 28 #[.pointer (some ⟨g, 0, none⟩), .agg (TimeV sec nano).toArray] w (IdOk w0 w g f (atB 6 sec nano node ds)) :=
  newV6_any w0 w g f (epV q) (hwV q) sec nano P.s0 (by have := P.s1; omega) P.n0 P.n1 (tks sec nano) (by unfold tks; have := P.s0; have := P.n0; omega) _ _ _ rfl rfl rfl ds (by have := P.d0; omega) _ _ (take8 ds (by have := P.d0; omega)) P.d1 E.at_ E.feed E.hfg E.h0 E.f0 E.g0
theorem seven {w0 w : World} {g q f : Nat} {sec nano : Int} {N : Option Addr} {cN : Nat} {node ds : List UInt8} (P : Pre w0 sec nano N node ds) (E : Env w0 w g q f sec nano N cN node ds) (cl : Bool) :
    Calls Try.prog 52 #[.pointer (some ⟨g, 0, none⟩), .agg (TimeV sec nano).toArray, .bool cl] w (IdOk w0 w g f (atB 7 sec nano node ds)) := by
  have p0 := P.s0
  have p1 := P.s1
  have p2 := P.n0
  have p3 := P.n1
  have p4 := P.d0
  have p5 := P.d1
  have hm : (mss sec nano : Int) = sec * 1000 + nano / 1000000 := by unfold mss; omega
  have hc : numB (ds.take 2) % 2048 < 2048 := Nat.mod_lt _ (by omega)
  refine (newV7_any w0 w g f (epV q) (hwV q) 0 0 0 sec nano p0 (by omega) p2 p3 (mss sec nano) hm false cl ds (ds.drop 2) (mss sec nano) (numB (ds.take 2) % 2048) (Or.inl ⟨Or.inl rfl, rfl, rfl, rfl⟩) (by omega) (by omega) (ds.getD 2 0) ((ds.drop 3).take 7) (take8 ds (by omega)) (by simp; omega) (by omega) (by omega) (by omega) (by omega) (by omega) (by omega) (by simp; omega) (by rw [← genB_7]; exact E.at_) E.feed E.hfg E.h0 E.f0 E.g0).mono ?_
  rintro e w' ⟨rfl, -, -, t⟩
  exact ⟨rfl, t.below E.h0 E.h0.size E.f0 E.g0, t⟩
set_option maxRecDepth 100000 in
theorem at7 {w0 w : World} {g q f : Nat} {sec nano : Int} {N : Option Addr} {cN : Nat} {node ds : List UInt8} (P : Pre w0 sec nano N node ds) (E : Env w0 w g q f sec nano N cN node ds) :
    Calls Try.prog 29 #[.pointer (some ⟨g, 0, none⟩), .agg (TimeV sec nano).toArray] w (IdOk w0 w g f (atB 7 sec nano node ds)) := by
  have F := Lib.hid (fun w1 (b : Below w.heap.size w w1) => seven P (E.below b) false)
  obtain ⟨D, hD⟩ : ∃ D, D = atB 7 sec nano node ds := ⟨_, rfl⟩
  have LD := Lib.hid (show D.length = 16 by rw [hD]; exact atB_length _ _ _ _ _ P.hnl P.d0)
  have HBS := Lib.hid (sizeU_of D LD.out)
  obtain ⟨tv, htv⟩ : ∃ tv, tv = TimeV sec nano := ⟨_, rfl⟩
  have HTS := Lib.hid (show (Try.prog.info? 63).map (·.size) = some tv.length by rw [htv]; exact Try.sizeT sec nano)
  rw [← hD, ← htv] at F
  rw [← hD, ← htv]
  obtain ⟨Z, hZ⟩ : ∃ Z, Z = z16.map B8 := ⟨_, rfl⟩
  have hz : ∀ w, (zeroValue 56).run Try.prog w = .ok (.agg Z.toArray) w := hZ ▸ Try.zeroU
  have HZ := Lib.hid (show Z.length = 16 by simp [hZ, z16])
  have H0 := Lib.hid E.h0
  have LG := Lib.hid E.at_.lt
  have LF := Lib.hid E.feed.lt
  clear hZ hD htv P E
  go_enter Try.func29, Try.ntmps29
  go_wp2_with (refine wpList_boxed rfl 63 (.tmp 1) rfl (.agg tv.toArray) tv (by rfl) rfl ?_)
  intro w1 h1
  have H1 := Lib.hid h1
  clear h1
  go_wp2_with (refine wpList_var rfl 56 rfl (.agg Z.toArray) Z hz rfl ?_)
  intro w2 h2
  have H2 := Lib.hid h2
  have T2 := Lib.hid (h2.keep H1.out.at_)
  clear h2
  have b2 := H2.out.below (H1.out.below (Below.refl w.heap.size w) (Nat.le_refl _)) (by have := H1.out.size; omega)
  have X := Lib.hid (F.out w2 b2)
  clear b2
  go_wp2_with (refine wpList_get rfl 63 (.tmp 3) rfl w.heap.size (by rfl) 63 tv _ T2.out Try.underlying63 rfl HTS.out ?_)
  refine X.out.mono ?_
  rintro e w3 ⟨rfl, b3, t3⟩
  have B3 := Lib.hid b3
  have s1 := Lib.hid (show w1.heap.size = w.heap.size + 1 from H1.out.size)
  have O3 := Lib.hid (t3.at_ H2.out.at_ (by have := LF.out; have := s1.out; omega) (by have := LG.out; have := s1.out; omega))
  have K3 := Lib.hid (show Two w w3 f g from (Two.none (grown_trans' H1.out.grown H2.out.grown)).trans t3)
  clear b3 t3
  go_wp2_with (refine wpList_put rfl 56 (.tmp 4) (.tmp 9) rfl w1.heap.size (D.map B8) (by rfl) (by rfl) 56 Z O3.out HBS.out (by rw [HZ.out, List.length_map, LD.out]) (B8_one _) ?_)
  intro w4 h4
  have P4 := Lib.hid h4
  clear h4
  go_wp2
  refine ret_cell_tmp 4 56 5 rfl w1.heap.size 56 (D.map B8) _ .nilIface rfl rfl P4.out.at_ Try.underlying56 rfl HBS.out rfl ?_
  exact ⟨rfl, P4.out.below B3.out B3.out.size (by have := H0.out.size; have := s1.out; omega), K3.out.put P4.out.grown (by have := s1.out; omega)⟩
set_option maxRecDepth 100000 in
theorem now1 {w0 w : World} {g q f : Nat} {sec nano : Int} {N : Option Addr} {cN : Nat} {node ds : List UInt8} (P : Pre w0 sec nano N node ds) (E : Env w0 w g q f sec nano N cN node ds) :
    Calls Try.prog 31 #[.pointer (some ⟨g, 0, none⟩)] w (IdOk w0 w g f (atB 1 sec nano node ds)) := by
  have F := Lib.hid (fun w1 (b : Below w.heap.size w w1) => at1 P (E.below b))
  have NW := Lib.hid (fun w1 (b : Below w.heap.size w w1) => now_any q sec nano (by have := P.s0; omega) (by have := P.s1; omega) P.n0 P.n1 N 6 cN w1 (E.below b).wor)
  obtain ⟨D, hD⟩ : ∃ D, D = atB 1 sec nano node ds := ⟨_, rfl⟩
  have LD := Lib.hid (show D.length = 16 by rw [hD]; exact atB_length _ _ _ _ _ P.hnl P.d0)
  have HBS := Lib.hid (sizeU_of D LD.out)
  obtain ⟨tv, htv⟩ : ∃ tv, tv = TimeV sec nano := ⟨_, rfl⟩
  rw [← hD, ← htv] at F
  rw [← htv] at NW
  rw [← hD]
  obtain ⟨Z, hZ⟩ : ∃ Z, Z = z16.map B8 := ⟨_, rfl⟩
  have hz : ∀ w, (zeroValue 56).run Try.prog w = .ok (.agg Z.toArray) w := hZ ▸ Try.zeroU
  have HZ := Lib.hid (show Z.length = 16 by simp [hZ, z16])
  have H0 := Lib.hid E.h0
  have LG := Lib.hid E.at_.lt
  have LF := Lib.hid E.feed.lt
  have HG := Lib.hid E.at_
  clear hZ hD htv P E
  go_enter Try.func31, Try.ntmps31
  go_wp2_with (refine wpList_var rfl 56 rfl (.agg Z.toArray) Z hz rfl ?_)
  intro w1 h1
  have H1 := Lib.hid h1
  have B1 := Lib.hid (h1.below (Below.refl w.heap.size w) (Nat.le_refl _))
  have k1 : w1.cell? ⟨g, 3, none⟩ = some (epV q) := (h1.keep HG.out).cell 3 (by simp [genB])
  unfold epV at k1
  have X := Lib.hid (NW.out w1 B1.out)
  clear h1
  go_wp2_with fail
  refine X.out.mono ?_
  rintro e w2 ⟨rfl, b2⟩
  have B2 := Lib.hid (show Below w.heap.size w w2 from B1.out.trans (b2.mono B1.out.size))
  have Y := Lib.hid (F.out w2 B2.out)
  have O2 := Lib.hid (H1.out.at_.below b2 (by have := H1.out.size; omega))
  have K2 := Lib.hid (show Two w w2 f g from (Two.none H1.out.grown).trans (Two.none (grown_of_below b2 _)))
  clear b2 k1
  go_wp2_with fail
  refine Y.out.mono ?_
  rintro e w3 ⟨rfl, b3, t3⟩
  have B3 := Lib.hid b3
  have O3 := Lib.hid (t3.at_ O2.out (by have := LF.out; omega) (by have := LG.out; omega))
  have K3 := Lib.hid (K2.out.trans t3)
  clear b3 t3
  go_wp2_with (refine wpList_put rfl 56 (.tmp 2) (.tmp 11) rfl w.heap.size (D.map B8) (by rfl) (by rfl) 56 Z O3.out HBS.out (by rw [HZ.out, List.length_map, LD.out]) (B8_one _) ?_)
  intro w4 h4
  have P4 := Lib.hid h4
  clear h4
  go_wp2
  refine ret_cell_tmp 2 56 3 rfl w.heap.size 56 (D.map B8) _ .nilIface rfl rfl P4.out.at_ Try.underlying56 rfl HBS.out rfl ?_
  exact ⟨rfl, P4.out.below B3.out B3.out.size H0.out.size, K3.out.put P4.out.grown (Nat.le_refl _)⟩
set_option maxRecDepth 100000 in
theorem now6 {w0 w : World} {g q f : Nat} {sec nano : Int} {N : Option Addr} {cN : Nat} {node ds : List UInt8} (P : Pre w0 sec nano N node ds) (E : Env w0 w g q f sec nano N cN node ds) :
    Calls Try.prog 32 #[.pointer (some ⟨g, 0, none⟩)] w (IdOk w0 w g f (atB 6 sec nano node ds)) := by
  have F := Lib.hid (fun w1 (b : Below w.heap.size w w1) => at6 P (E.below b))
  have NW := Lib.hid (fun w1 (b : Below w.heap.size w w1) => now_any q sec nano (by have := P.s0; omega) (by have := P.s1; omega) P.n0 P.n1 N 6 cN w1 (E.below b).wor)
  obtain ⟨D, hD⟩ : ∃ D, D = atB 6 sec nano node ds := ⟨_, rfl⟩
  have LD := Lib.hid (show D.length = 16 by rw [hD]; exact atB_length _ _ _ _ _ P.hnl P.d0)
  have HBS := Lib.hid (sizeU_of D LD.out)
  obtain ⟨tv, htv⟩ : ∃ tv, tv = TimeV sec nano := ⟨_, rfl⟩
  rw [← hD, ← htv] at F
  rw [← htv] at NW
  rw [← hD]
  obtain ⟨Z, hZ⟩ : ∃ Z, Z = z16.map B8 := ⟨_, rfl⟩
  have hz : ∀ w, (zeroValue 56).run Try.prog w = .ok (.agg Z.toArray) w := hZ ▸ Try.zeroU
  have HZ := Lib.hid (show Z.length = 16 by simp [hZ, z16])
  have H0 := Lib.hid E.h0
  have LG := Lib.hid E.at_.lt
  have LF := Lib.hid E.feed.lt
  have HG := Lib.hid E.at_
  clear hZ hD htv P E
  go_enter Try.func32, Try.ntmps32
  go_wp2_with (refine wpList_var rfl 56 rfl (.agg Z.toArray) Z hz rfl ?_)
  intro w1 h1
  have H1 := Lib.hid h1
  have B1 := Lib.hid (h1.below (Below.refl w.heap.size w) (Nat.le_refl _))
  have k1 : w1.cell? ⟨g, 3, none⟩ = some (epV q) := (h1.keep HG.out).cell 3 (by simp [genB])
  unfold epV at k1
  have X := Lib.hid (NW.out w1 B1.out)
  clear h1
  go_wp2_with fail
  refine X.out.mono ?_
  rintro e w2 ⟨rfl, b2⟩
  have B2 := Lib.hid (show Below w.heap.size w w2 from B1.out.trans (b2.mono B1.out.size))
  have Y := Lib.hid (F.out w2 B2.out)
  have O2 := Lib.hid (H1.out.at_.below b2 (by have := H1.out.size; omega))
  have K2 := Lib.hid (show Two w w2 f g from (Two.none H1.out.grown).trans (Two.none (grown_of_below b2 _)))
  clear b2 k1
  go_wp2_with fail
  refine Y.out.mono ?_
  rintro e w3 ⟨rfl, b3, t3⟩
  have B3 := Lib.hid b3
  have O3 := Lib.hid (t3.at_ O2.out (by have := LF.out; omega) (by have := LG.out; omega))
  have K3 := Lib.hid (K2.out.trans t3)
  clear b3 t3
  go_wp2_with (refine wpList_put rfl 56 (.tmp 2) (.tmp 11) rfl w.heap.size (D.map B8) (by rfl) (by rfl) 56 Z O3.out HBS.out (by rw [HZ.out, List.length_map, LD.out]) (B8_one _) ?_)
  intro w4 h4
  have P4 := Lib.hid h4
  clear h4
  go_wp2
  refine ret_cell_tmp 2 56 3 rfl w.heap.size 56 (D.map B8) _ .nilIface rfl rfl P4.out.at_ Try.underlying56 rfl HBS.out rfl ?_
  exact ⟨rfl, P4.out.below B3.out B3.out.size H0.out.size, K3.out.put P4.out.grown (Nat.le_refl _)⟩
set_option maxRecDepth 100000 in
theorem now7 {w0 w : World} {g q f : Nat} {sec nano : Int} {N : Option Addr} {cN : Nat} {node ds : List UInt8} (P : Pre w0 sec nano N node ds) (E : Env w0 w g q f sec nano N cN node ds) :
    Calls Try.prog 33 #[.pointer (some ⟨g, 0, none⟩)] w (IdOk w0 w g f (atB 7 sec nano node ds)) := by
  have F := Lib.hid (fun w1 (b : Below w.heap.size w w1) => seven P (E.below b) true)
  have NW := Lib.hid (fun w1 (b : Below w.heap.size w w1) => now_any q sec nano (by have := P.s0; omega) (by have := P.s1; omega) P.n0 P.n1 N 6 cN w1 (E.below b).wor)
  obtain ⟨D, hD⟩ : ∃ D, D = atB 7 sec nano node ds := ⟨_, rfl⟩
  have LD := Lib.hid (show D.length = 16 by rw [hD]; exact atB_length _ _ _ _ _ P.hnl P.d0)
  have HBS := Lib.hid (sizeU_of D LD.out)
  obtain ⟨tv, htv⟩ : ∃ tv, tv = TimeV sec nano := ⟨_, rfl⟩
  rw [← hD, ← htv] at F
  rw [← htv] at NW
  rw [← hD]
  obtain ⟨Z, hZ⟩ : ∃ Z, Z = z16.map B8 := ⟨_, rfl⟩
  have hz : ∀ w, (zeroValue 56).run Try.prog w = .ok (.agg Z.toArray) w := hZ ▸ Try.zeroU
  have HZ := Lib.hid (show Z.length = 16 by simp [hZ, z16])
  have H0 := Lib.hid E.h0
  have LG := Lib.hid E.at_.lt
  have LF := Lib.hid E.feed.lt
  have HG := Lib.hid E.at_
  clear hZ hD htv P E
  go_enter Try.func33, Try.ntmps33
  go_wp2_with (refine wpList_var rfl 56 rfl (.agg Z.toArray) Z hz rfl ?_)
  intro w1 h1
  have H1 := Lib.hid h1
  have B1 := Lib.hid (h1.below (Below.refl w.heap.size w) (Nat.le_refl _))
  have k1 : w1.cell? ⟨g, 3, none⟩ = some (epV q) := (h1.keep HG.out).cell 3 (by simp [genB])
  unfold epV at k1
  have X := Lib.hid (NW.out w1 B1.out)
  clear h1
  go_wp2_with fail
  refine X.out.mono ?_
  rintro e w2 ⟨rfl, b2⟩
  have B2 := Lib.hid (show Below w.heap.size w w2 from B1.out.trans (b2.mono B1.out.size))
  have Y := Lib.hid (F.out w2 B2.out)
  have O2 := Lib.hid (H1.out.at_.below b2 (by have := H1.out.size; omega))
  have K2 := Lib.hid (show Two w w2 f g from (Two.none H1.out.grown).trans (Two.none (grown_of_below b2 _)))
  clear b2 k1
  go_wp2_with fail
  refine Y.out.mono ?_
  rintro e w3 ⟨rfl, b3, t3⟩
  have B3 := Lib.hid b3
  have O3 := Lib.hid (t3.at_ O2.out (by have := LF.out; omega) (by have := LG.out; omega))
  have K3 := Lib.hid (K2.out.trans t3)
  clear b3 t3
  go_wp2_with (refine wpList_put rfl 56 (.tmp 2) (.tmp 11) rfl w.heap.size (D.map B8) (by rfl) (by rfl) 56 Z O3.out HBS.out (by rw [HZ.out, List.length_map, LD.out]) (B8_one _) ?_)
  intro w4 h4
  have P4 := Lib.hid h4
  clear h4
  go_wp2
  refine ret_cell_tmp 2 56 3 rfl w.heap.size 56 (D.map B8) _ .nilIface rfl rfl P4.out.at_ Try.underlying56 rfl HBS.out rfl ?_
  exact ⟨rfl, P4.out.below B3.out B3.out.size H0.out.size, K3.out.put P4.out.grown (Nat.le_refl _)⟩
end Go.Proofs.Ytbojjpgekbljfaa
