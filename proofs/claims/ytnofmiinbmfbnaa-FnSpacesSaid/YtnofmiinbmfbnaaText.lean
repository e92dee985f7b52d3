/-
  String of a UUID, and the thin package's UuidText.
-/
import Derived.Test.YtnofmiinbmfbnaaFromBytes
import Derived.Test.YtnofmiinbmfbnaaHex
namespace Go.Proofs.Ytnofmiinbmfbnaa
open Go.RowKit
set_option linter.unusedVariables false
def z36 : List UInt8 := List.replicate 36 0
theorem Try.zero36 (w : World) : (zeroValue 81).run Try.prog w = .ok (.agg (z36.map B8).toArray) w := by kernel_rfl
/-- The canonical text of sixteen bytes. -/
def uuidStr (bs : List UInt8) : ByteArray := ⟨(encK bs 16).toArray⟩
set_option maxRecDepth 100000 in
theorem string_any (bs : List UInt8) (hbs : bs.length = 16) (w : World) :
    Calls Try.prog 33 #[.agg (bs.map B8).toArray] w fun e w' => e = .returned (.string (uuidStr bs)) ∧ Below w.heap.size w w' := by
  have HL := Lib.hid hbs
  clear hbs
  have hi : (Try.prog.info? 63).map (·.size) = some (bs.map B8).length := sizeU_of bs HL.out
  have hu := Try.underlying63
  have hl : (bs.map B8).length = 16 := by rw [List.length_map, HL.out]
  obtain ⟨cs, hcs⟩ : ∃ cs, cs = bs.map B8 := ⟨_, rfl⟩
  rw [← hcs] at hi hl ⊢
  have HC := Lib.hid hcs
  have HI := Lib.hid hi
  have HLl := Lib.hid hl
  clear hcs hi hl hu
  go_enter Try.func33, Try.ntmps33
  go_wp2_with (refine wpList_boxed rfl 63 (.tmp 0) rfl (.agg cs.toArray) cs (by rfl) rfl ?_)
  intro w1 h1
  have H1 := Lib.hid h1
  clear h1
  go_wp2_with (refine wpList_var rfl 81 rfl (.agg (z36.map B8).toArray) (z36.map B8) Try.zero36 rfl ?_)
  intro w2 h2
  have H2 := Lib.hid h2
  clear h2
  go_wp2_with fail
  have hi := HI.out
  have hl := HLl.out
  have hu := Try.underlying63
  have r2 : w2.rangeAt w.heap.size 0 cs := (H2.out.keep H1.out.at_).range
  go_region_held3 (fun w' => w'.rangeAt w.heap.size 0 cs) (go_keep_ranges)
    (first | (go_at_call 53; rw [HC.out]; refine (encode_any w1.heap.size 81 bs HL.out _ ?_).mono ?_; (first | exact H2.out.at_ | exact H2.out.at_.drew); rintro e w3 ⟨rfl, a3, g3⟩; have r3 : w3.rangeAt w.heap.size 0 cs := (At.grown (H2.out.keep H1.out.at_).drew g3 (by have := H1.out.size; simp; omega)).range))
  have A3 := Lib.hid a3
  have G3 := Lib.hid g3
  clear a3 g3 r2 r3 hi hl hu
  have E36 := Lib.hid (encK_length bs 16)
  have bel : Below w.heap.size w w3 := ((H2.out.below (H1.out.below (Below.refl _ _) (Nat.le_refl _)) (by have := H1.out.size; omega)).drew).grown G3.out (by have := H1.out.size; have := H2.out.size; show w.heap.size ≤ w2.heap.size; omega) (by have := H1.out.size; simp; omega)
  have BEL := Lib.hid bel
  clear bel
  go_wp2_with (refine wpList_strB rfl 27 9 (.tmp 7) rfl 5 Try.underlying27 Try.underlying5 Try.underlying9 (some ⟨w1.heap.size, 0, none⟩) 36 36 (encK bs 16) (by rfl) A3.out.byt E36.out (by omega) ?_)
  go_ret
  exact ⟨rfl, BEL.out⟩

set_option maxRecDepth 100000 in
theorem uuidText_yes (A : Option Addr) (c : Nat) (bs : List UInt8) (hbs : bs.length = 16) (w : World) (hb : Byt w A bs) :
    Calls Try.prog 17 #[.slice A 16 c] w fun e w' => e = .returned (.tuple #[.string (uuidStr bs), .bool true]) ∧ Below w.heap.size w w' := by
  have HL := Lib.hid hbs
  have HB := Lib.hid hb
  clear hbs hb
  obtain ⟨Z, hZ⟩ : ∃ Z, Z = z16.map B8 := ⟨_, rfl⟩
  have hz : ∀ w, (zeroValue 63).run Try.prog w = .ok (.agg Z.toArray) w := hZ ▸ Try.zeroU
  have HZ := Lib.hid (show Z.length = 16 by simp [hZ, z16])
  have HBS := Lib.hid (sizeU_of bs HL.out)
  obtain ⟨S, hS⟩ : ∃ S, S = uuidStr bs := ⟨_, rfl⟩
  rw [← hS]
  have HS := Lib.hid hS
  clear hZ hS
  go_enter Try.func17, Try.ntmps17
  go_wp2_with fail
  refine (fromBytes_yes A 16 c bs rfl HL.out w HB.out).mono ?_
  rintro e w1 ⟨rfl, bel1⟩
  have E1 := Lib.hid bel1
  clear bel1
  go_wp2_with (refine wpList_var rfl 63 rfl (.agg Z.toArray) Z hz rfl ?_)
  intro w2 h2
  have H2 := Lib.hid h2
  clear h2
  go_wp2_with (refine wpList_put rfl 63 (.tmp 4) (.tmp 9) rfl w1.heap.size (bs.map B8) (by rfl) (by rfl) 63 Z H2.out.at_ HBS.out (by rw [HZ.out, List.length_map, HL.out]) (B8_one _) ?_)
  intro w3 h3
  have H3 := Lib.hid h3
  clear h3
  go_wp2_with (refine wpList_get rfl 63 (.tmp 4) rfl w1.heap.size (by rfl) 63 (bs.map B8) _ H3.out.at_ Try.underlying63 rfl HBS.out ?_)
  refine (string_any bs HL.out w3).mono ?_
  rw [← HS.out]
  rintro e w4 ⟨rfl, bel4⟩
  have E4 := Lib.hid bel4
  clear bel4
  go_wp2
  go_ret2
  have s2 := H2.out.size
  have s3 := H3.out.size
  have sz := E1.out.size
  have bel : Below w.heap.size w w3 := H3.out.below (H2.out.below E1.out sz) (by omega) sz
  exact ⟨rfl, bel.trans (E4.out.mono bel.size)⟩

set_option maxRecDepth 100000 in
theorem uuidText_no (A : Option Addr) (n c : Nat) (hn : n ≠ 16) (w : World) :
    Calls Try.prog 17 #[.slice A n c] w fun e w' => e = .returned (.tuple #[.string ⟨#[]⟩, .bool false]) ∧ Below w.heap.size w w' := by
  have HN := Lib.hid hn
  clear hn
  obtain ⟨Z, hZ⟩ : ∃ Z, Z = z16.map B8 := ⟨_, rfl⟩
  have hz : ∀ w, (zeroValue 63).run Try.prog w = .ok (.agg Z.toArray) w := hZ ▸ Try.zeroU
  have hZ1 : ∀ v ∈ Z, v.oneCell' = true := hZ ▸ B8_one z16
  have HZ := Lib.hid (show Z.length = 16 by simp [hZ, z16])
  have HZS := Lib.hid (show (Try.prog.info? 63).map (·.size) = some Z.length by rw [HZ.out]; exact Try.sizeU)
  have HZ1 := Lib.hid hZ1
  clear hZ hZ1
  go_enter Try.func17, Try.ntmps17
  go_wp2_with fail
  refine (fromBytes_nz A n c HN.out w).mono ?_
  rintro e w1 ⟨⟨cs, T, x, rfl, hl, ho⟩, bel1⟩
  have E1 := Lib.hid bel1
  have HCS := Lib.hid (show (Try.prog.info? 63).map (·.size) = some cs.length by rw [hl]; exact Try.sizeU)
  have HO := Lib.hid ho
  have HLc := Lib.hid hl
  clear bel1 ho hl
  go_wp2_with (refine wpList_var rfl 63 rfl (.agg Z.toArray) Z hz rfl ?_)
  intro w2 h2
  have H2 := Lib.hid h2
  clear h2
  go_wp2_with (refine wpList_put rfl 63 (.tmp 4) (.tmp 9) rfl w1.heap.size cs (by rfl) (by rfl) 63 Z H2.out.at_ HCS.out (by rw [HZ.out, HLc.out]) HO.out ?_)
  intro w3 h3
  have H3 := Lib.hid h3
  clear h3
  go_wp2
  go_ret2
  have s2 := H2.out.size
  have s3 := H3.out.size
  have sz := E1.out.size
  exact ⟨rfl, H3.out.below (H2.out.below E1.out sz) (by omega) sz⟩
end Go.Proofs.Ytnofmiinbmfbnaa
