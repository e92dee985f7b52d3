/-
  The thin package's UuidStamp.
-/
import Derived.Test.YtnofmiinbmfbnaaStampW
namespace Go.Proofs.Ytnofmiinbmfbnaa
open Go.RowKit
set_option linter.unusedVariables false
set_option maxRecDepth 100000 in
theorem uuidStamp1_yes (A : Option Addr) (c : Nat) (bs : List UInt8) (hbs : bs.length = 16) (x : UInt8) (hx : bs.getD 6 0 = x) (hv : (x.toNat : Int) / 16 = 1) (w : World) (hb : Byt w A bs) :
    Calls Try.prog 18 #[.int .i64 1, .slice A 16 c] w fun e w' => e = .returned (.tuple #[.int .u64 (stamp1 bs), .bool true]) ∧ Below w.heap.size w w' := by
  have HL := Lib.hid hbs
  have HB := Lib.hid hb
  have HX := Lib.hid hx
  have HV := Lib.hid hv
  clear hbs hb hx hv
  obtain ⟨Z, hZ⟩ : ∃ Z, Z = z16.map B8 := ⟨_, rfl⟩
  have hz : ∀ w, (zeroValue 63).run Try.prog w = .ok (.agg Z.toArray) w := hZ ▸ Try.zeroU
  have HZ := Lib.hid (show Z.length = 16 by simp [hZ, z16])
  have HBS := Lib.hid (sizeU_of bs HL.out)
  obtain ⟨S, hS⟩ : ∃ S, S = stamp1 bs := ⟨_, rfl⟩
  rw [← hS]
  have HS := Lib.hid hS
  clear hS
  clear hZ
  go_enter Try.func18, Try.ntmps18
  go_wp2_with fail
  refine (fromBytes_yes A 16 c bs rfl HL.out w HB.out).mono ?_
  rintro e w1 ⟨rfl, bel1⟩
  have E1 := Lib.hid bel1
  clear bel1
  go_wp2_with (refine wpList_var rfl 63 rfl (.agg Z.toArray) Z hz rfl ?_)
  intro w2 h2
  have H2 := Lib.hid h2
  clear h2
  go_wp2_with (refine wpList_put rfl 63 (.tmp 6) (.tmp 12) rfl w1.heap.size (bs.map B8) (by rfl) (by rfl) 63 Z H2.out.at_ HBS.out (by rw [HZ.out, List.length_map, HL.out]) (B8_one _) ?_)
  intro w3 h3
  have H3 := Lib.hid h3
  clear h3
  go_wp2_with (refine wpList_get rfl 63 (.tmp 6) rfl w1.heap.size (by rfl) 63 (bs.map B8) _ H3.out.at_ Try.underlying63 rfl HBS.out ?_)
  refine (v1_yes bs HL.out x HX.out HV.out w3).mono ?_
  rw [← HS.out]
  rintro e w4 ⟨rfl, bel4⟩
  have E4 := Lib.hid bel4
  clear bel4
  go_wp2
  go_ret2
  have s2 := H2.out.size
  have s3 := H3.out.size
  have sz := E1.out.size
  have bel : Below w.heap.size w w3 := H3.out.below (H2.out.below E1.out sz) (by omega) sz
  exact ⟨rfl, bel.trans (E4.out.mono bel.size)⟩
set_option maxRecDepth 100000 in
theorem uuidStamp1_no (A : Option Addr) (c : Nat) (bs : List UInt8) (hbs : bs.length = 16) (x : UInt8) (hx : bs.getD 6 0 = x) (hv : ((x.toNat : Int) / 16 == 1) = false) (w : World) (hb : Byt w A bs) :
    Calls Try.prog 18 #[.int .i64 1, .slice A 16 c] w fun e w' => e = .returned (.tuple #[.int .u64 0, .bool false]) ∧ Below w.heap.size w w' := by
  have HL := Lib.hid hbs
  have HB := Lib.hid hb
  have HX := Lib.hid hx
  have HV := Lib.hid hv
  clear hbs hb hx hv
  obtain ⟨Z, hZ⟩ : ∃ Z, Z = z16.map B8 := ⟨_, rfl⟩
  have hz : ∀ w, (zeroValue 63).run Try.prog w = .ok (.agg Z.toArray) w := hZ ▸ Try.zeroU
  have HZ := Lib.hid (show Z.length = 16 by simp [hZ, z16])
  have HBS := Lib.hid (sizeU_of bs HL.out)
  clear hZ
  go_enter Try.func18, Try.ntmps18
  go_wp2_with fail
  refine (fromBytes_yes A 16 c bs rfl HL.out w HB.out).mono ?_
  rintro e w1 ⟨rfl, bel1⟩
  have E1 := Lib.hid bel1
  clear bel1
  go_wp2_with (refine wpList_var rfl 63 rfl (.agg Z.toArray) Z hz rfl ?_)
  intro w2 h2
  have H2 := Lib.hid h2
  clear h2
  go_wp2_with (refine wpList_put rfl 63 (.tmp 6) (.tmp 12) rfl w1.heap.size (bs.map B8) (by rfl) (by rfl) 63 Z H2.out.at_ HBS.out (by rw [HZ.out, List.length_map, HL.out]) (B8_one _) ?_)
  intro w3 h3
  have H3 := Lib.hid h3
  clear h3
  go_wp2_with (refine wpList_get rfl 63 (.tmp 6) rfl w1.heap.size (by rfl) 63 (bs.map B8) _ H3.out.at_ Try.underlying63 rfl HBS.out ?_)
  refine (v1_no bs HL.out x HX.out HV.out w3).mono ?_
  rintro e w4 ⟨⟨T, y, rfl⟩, bel4⟩
  have E4 := Lib.hid bel4
  clear bel4
  go_wp2
  go_ret2
  have s2 := H2.out.size
  have s3 := H3.out.size
  have sz := E1.out.size
  have bel : Below w.heap.size w w3 := H3.out.below (H2.out.below E1.out sz) (by omega) sz
  exact ⟨rfl, bel.trans (E4.out.mono bel.size)⟩
set_option maxRecDepth 100000 in
theorem uuidStamp6_yes (A : Option Addr) (c : Nat) (bs : List UInt8) (hbs : bs.length = 16) (x : UInt8) (hx : bs.getD 6 0 = x) (hv : (x.toNat : Int) / 16 = 6) (w : World) (hb : Byt w A bs) :
    Calls Try.prog 18 #[.int .i64 6, .slice A 16 c] w fun e w' => e = .returned (.tuple #[.int .u64 (stamp6 bs), .bool true]) ∧ Below w.heap.size w w' := by
  have HL := Lib.hid hbs
  have HB := Lib.hid hb
  have HX := Lib.hid hx
  have HV := Lib.hid hv
  clear hbs hb hx hv
  obtain ⟨Z, hZ⟩ : ∃ Z, Z = z16.map B8 := ⟨_, rfl⟩
  have hz : ∀ w, (zeroValue 63).run Try.prog w = .ok (.agg Z.toArray) w := hZ ▸ Try.zeroU
  have HZ := Lib.hid (show Z.length = 16 by simp [hZ, z16])
  have HBS := Lib.hid (sizeU_of bs HL.out)
  obtain ⟨S, hS⟩ : ∃ S, S = stamp6 bs := ⟨_, rfl⟩
  rw [← hS]
  have HS := Lib.hid hS
  clear hS
  clear hZ
  go_enter Try.func18, Try.ntmps18
  go_wp2_with fail
  refine (fromBytes_yes A 16 c bs rfl HL.out w HB.out).mono ?_
  rintro e w1 ⟨rfl, bel1⟩
  have E1 := Lib.hid bel1
  clear bel1
  go_wp2_with (refine wpList_var rfl 63 rfl (.agg Z.toArray) Z hz rfl ?_)
  intro w2 h2
  have H2 := Lib.hid h2
  clear h2
  go_wp2_with (refine wpList_put rfl 63 (.tmp 6) (.tmp 12) rfl w1.heap.size (bs.map B8) (by rfl) (by rfl) 63 Z H2.out.at_ HBS.out (by rw [HZ.out, List.length_map, HL.out]) (B8_one _) ?_)
  intro w3 h3
  have H3 := Lib.hid h3
  clear h3
  go_wp2_with (refine wpList_get rfl 63 (.tmp 6) rfl w1.heap.size (by rfl) 63 (bs.map B8) _ H3.out.at_ Try.underlying63 rfl HBS.out ?_)
  refine (v6_yes bs HL.out x HX.out HV.out w3).mono ?_
  rw [← HS.out]
  rintro e w4 ⟨rfl, bel4⟩
  have E4 := Lib.hid bel4
  clear bel4
  go_wp2
  go_ret2
  have s2 := H2.out.size
  have s3 := H3.out.size
  have sz := E1.out.size
  have bel : Below w.heap.size w w3 := H3.out.below (H2.out.below E1.out sz) (by omega) sz
  exact ⟨rfl, bel.trans (E4.out.mono bel.size)⟩
set_option maxRecDepth 100000 in
theorem uuidStamp6_no (A : Option Addr) (c : Nat) (bs : List UInt8) (hbs : bs.length = 16) (x : UInt8) (hx : bs.getD 6 0 = x) (hv : ((x.toNat : Int) / 16 == 6) = false) (w : World) (hb : Byt w A bs) :
    Calls Try.prog 18 #[.int .i64 6, .slice A 16 c] w fun e w' => e = .returned (.tuple #[.int .u64 0, .bool false]) ∧ Below w.heap.size w w' := by
  have HL := Lib.hid hbs
  have HB := Lib.hid hb
  have HX := Lib.hid hx
  have HV := Lib.hid hv
  clear hbs hb hx hv
  obtain ⟨Z, hZ⟩ : ∃ Z, Z = z16.map B8 := ⟨_, rfl⟩
  have hz : ∀ w, (zeroValue 63).run Try.prog w = .ok (.agg Z.toArray) w := hZ ▸ Try.zeroU
  have HZ := Lib.hid (show Z.length = 16 by simp [hZ, z16])
  have HBS := Lib.hid (sizeU_of bs HL.out)
  clear hZ
  go_enter Try.func18, Try.ntmps18
  go_wp2_with fail
  refine (fromBytes_yes A 16 c bs rfl HL.out w HB.out).mono ?_
  rintro e w1 ⟨rfl, bel1⟩
  have E1 := Lib.hid bel1
  clear bel1
  go_wp2_with (refine wpList_var rfl 63 rfl (.agg Z.toArray) Z hz rfl ?_)
  intro w2 h2
  have H2 := Lib.hid h2
  clear h2
  go_wp2_with (refine wpList_put rfl 63 (.tmp 6) (.tmp 12) rfl w1.heap.size (bs.map B8) (by rfl) (by rfl) 63 Z H2.out.at_ HBS.out (by rw [HZ.out, List.length_map, HL.out]) (B8_one _) ?_)
  intro w3 h3
  have H3 := Lib.hid h3
  clear h3
  go_wp2_with (refine wpList_get rfl 63 (.tmp 6) rfl w1.heap.size (by rfl) 63 (bs.map B8) _ H3.out.at_ Try.underlying63 rfl HBS.out ?_)
  refine (v6_no bs HL.out x HX.out HV.out w3).mono ?_
  rintro e w4 ⟨⟨T, y, rfl⟩, bel4⟩
  have E4 := Lib.hid bel4
  clear bel4
  go_wp2
  go_ret2
  have s2 := H2.out.size
  have s3 := H3.out.size
  have sz := E1.out.size
  have bel : Below w.heap.size w w3 := H3.out.below (H2.out.below E1.out sz) (by omega) sz
  exact ⟨rfl, bel.trans (E4.out.mono bel.size)⟩
set_option maxRecDepth 100000 in
theorem uuidStamp7_yes (A : Option Addr) (c : Nat) (bs : List UInt8) (hbs : bs.length = 16) (x : UInt8) (hx : bs.getD 6 0 = x) (hv : (x.toNat : Int) / 16 = 7) (w : World) (hb : Byt w A bs) :
    Calls Try.prog 18 #[.int .i64 7, .slice A 16 c] w fun e w' => e = .returned (.tuple #[.int .u64 (stamp7 bs), .bool true]) ∧ Below w.heap.size w w' := by
  have HL := Lib.hid hbs
  have HB := Lib.hid hb
  have HX := Lib.hid hx
  have HV := Lib.hid hv
  clear hbs hb hx hv
  obtain ⟨Z, hZ⟩ : ∃ Z, Z = z16.map B8 := ⟨_, rfl⟩
  have hz : ∀ w, (zeroValue 63).run Try.prog w = .ok (.agg Z.toArray) w := hZ ▸ Try.zeroU
  have HZ := Lib.hid (show Z.length = 16 by simp [hZ, z16])
  have HBS := Lib.hid (sizeU_of bs HL.out)
  obtain ⟨S, hS⟩ : ∃ S, S = stamp7 bs := ⟨_, rfl⟩
  rw [← hS]
  have HS := Lib.hid hS
  clear hS
  clear hZ
  go_enter Try.func18, Try.ntmps18
  go_wp2_with fail
  refine (fromBytes_yes A 16 c bs rfl HL.out w HB.out).mono ?_
  rintro e w1 ⟨rfl, bel1⟩
  have E1 := Lib.hid bel1
  clear bel1
  go_wp2_with (refine wpList_var rfl 63 rfl (.agg Z.toArray) Z hz rfl ?_)
  intro w2 h2
  have H2 := Lib.hid h2
  clear h2
  go_wp2_with (refine wpList_put rfl 63 (.tmp 6) (.tmp 12) rfl w1.heap.size (bs.map B8) (by rfl) (by rfl) 63 Z H2.out.at_ HBS.out (by rw [HZ.out, List.length_map, HL.out]) (B8_one _) ?_)
  intro w3 h3
  have H3 := Lib.hid h3
  clear h3
  go_wp2_with (refine wpList_get rfl 63 (.tmp 6) rfl w1.heap.size (by rfl) 63 (bs.map B8) _ H3.out.at_ Try.underlying63 rfl HBS.out ?_)
  refine (v7_yes bs HL.out x HX.out HV.out w3).mono ?_
  rw [← HS.out]
  rintro e w4 ⟨rfl, bel4⟩
  have E4 := Lib.hid bel4
  clear bel4
  go_wp2
  go_ret2
  have s2 := H2.out.size
  have s3 := H3.out.size
  have sz := E1.out.size
  have bel : Below w.heap.size w w3 := H3.out.below (H2.out.below E1.out sz) (by omega) sz
  exact ⟨rfl, bel.trans (E4.out.mono bel.size)⟩
set_option maxRecDepth 100000 in
theorem uuidStamp7_no (A : Option Addr) (c : Nat) (bs : List UInt8) (hbs : bs.length = 16) (x : UInt8) (hx : bs.getD 6 0 = x) (hv : ((x.toNat : Int) / 16 == 7) = false) (w : World) (hb : Byt w A bs) :
    Calls Try.prog 18 #[.int .i64 7, .slice A 16 c] w fun e w' => e = .returned (.tuple #[.int .u64 0, .bool false]) ∧ Below w.heap.size w w' := by
  have HL := Lib.hid hbs
  have HB := Lib.hid hb
  have HX := Lib.hid hx
  have HV := Lib.hid hv
  clear hbs hb hx hv
  obtain ⟨Z, hZ⟩ : ∃ Z, Z = z16.map B8 := ⟨_, rfl⟩
  have hz : ∀ w, (zeroValue 63).run Try.prog w = .ok (.agg Z.toArray) w := hZ ▸ Try.zeroU
  have HZ := Lib.hid (show Z.length = 16 by simp [hZ, z16])
  have HBS := Lib.hid (sizeU_of bs HL.out)
  clear hZ
  go_enter Try.func18, Try.ntmps18
  go_wp2_with fail
  refine (fromBytes_yes A 16 c bs rfl HL.out w HB.out).mono ?_
  rintro e w1 ⟨rfl, bel1⟩
  have E1 := Lib.hid bel1
  clear bel1
  go_wp2_with (refine wpList_var rfl 63 rfl (.agg Z.toArray) Z hz rfl ?_)
  intro w2 h2
  have H2 := Lib.hid h2
  clear h2
  go_wp2_with (refine wpList_put rfl 63 (.tmp 6) (.tmp 12) rfl w1.heap.size (bs.map B8) (by rfl) (by rfl) 63 Z H2.out.at_ HBS.out (by rw [HZ.out, List.length_map, HL.out]) (B8_one _) ?_)
  intro w3 h3
  have H3 := Lib.hid h3
  clear h3
  go_wp2_with (refine wpList_get rfl 63 (.tmp 6) rfl w1.heap.size (by rfl) 63 (bs.map B8) _ H3.out.at_ Try.underlying63 rfl HBS.out ?_)
  refine (v7_no bs HL.out x HX.out HV.out w3).mono ?_
  rintro e w4 ⟨⟨T, y, rfl⟩, bel4⟩
  have E4 := Lib.hid bel4
  clear bel4
  go_wp2
  go_ret2
  have s2 := H2.out.size
  have s3 := H3.out.size
  have sz := E1.out.size
  have bel : Below w.heap.size w w3 := H3.out.below (H2.out.below E1.out sz) (by omega) sz
  exact ⟨rfl, bel.trans (E4.out.mono bel.size)⟩
end Go.Proofs.Ytnofmiinbmfbnaa
