/-
  spec.WithVariant; the thin package's UuidSet.
-/
import Derived.Test.YtnofmiinbmfbnaaFromBytes
import Derived.Test.YtnofmiinbmfbnaaSet
namespace Go.Proofs.Ytnofmiinbmfbnaa
open Go.RowKit

def NewOk (bs : List UInt8) (w : World) (e : Ending) (w' : World) : Prop := ∃ v, e = .returned v ∧ NewBytes w w' v bs ∧ Below w.heap.size w w'
theorem setVar_0 (x : UInt8) : bits .and .u8 (x.toNat : Int) 127 = ((setVar x (varMask 0) (varBits 0)).toNat : Int) := by
  rw [show (127 : Int) = ((127 : UInt8).toNat : Int) from rfl, u8_and]
  exact forall_u8 (p := fun x => ((x &&& 127).toNat : Int) = ((setVar x (varMask 0) (varBits 0)).toNat : Int)) (by decide +kernel) x
theorem setVar_3 (x : UInt8) : bits .or .u8 (x.toNat : Int) 224 = ((setVar x (varMask 3) (varBits 3)).toNat : Int) := by
  rw [show (224 : Int) = ((224 : UInt8).toNat : Int) from rfl, u8_or]
  exact forall_u8 (p := fun x => ((x ||| 224).toNat : Int) = ((setVar x (varMask 3) (varBits 3)).toNat : Int)) (by decide +kernel) x

set_option maxRecDepth 100000 in
theorem withVariant_0 (A : Option Addr) (c : Nat) (hc : A = none → c = 0) (bs : List UInt8) (hbs : bs.length = 16) (w : World) (hb : Byt w A bs) :
    Calls Try.prog 15 #[.slice A 16 c, .int .i64 0] w (NewOk (bs.set 8 (setVar (bs.getD 8 0) (varMask 0) (varBits 0))) w) := by
  have HL := Lib.hid hbs
  have HB := Lib.hid (Byt.below hb (B := w.heap.size) ((Below.refl _ _).alloc (Nat.le_refl _) (.cells #[] 5)) (Nat.le_refl _))
  have HO := Lib.hid (own_empty w 5 w.heap.size (Nat.le_refl _))
  have HC := Lib.hid hc
  clear hbs hb hc
  obtain ⟨x, hx⟩ : ∃ x, x = bs.getD 8 0 := ⟨_, rfl⟩
  rw [← hx]
  have HX := Lib.hid hx
  clear hx
  go_enter Try.func15, Try.ntmps15
  go_wp2_with (refine wpList_appB rfl (.tmp 6) (.tmp 7) 27 rfl w.heap.size 5 Try.underlying27 Try.info8 _ 0 [] (by rfl) HO.out A 16 c bs (by rfl) HB.out HL.out HC.out (by omega) (by simp) ?_)
  intro v' w2 h2 h3
  obtain ⟨-, g, cap, rest, e1, e2, e3⟩ := own_at (bs := bs) h2 (by omega)
  rw [e1]
  clear e1
  have h8 : 8 < bs.length := by rw [HL.out]; omega
  have cx : w2.cell? ⟨g, 8, none⟩ = some (.int .u8 (x.toNat : Int)) := by rw [e3.cellPre 8 h8, HX.out]; simp [List.getD, h8]
  have fx := e3.frozen 8
  have H3 := Lib.hid h3
  have E2 := Lib.hid e2
  have E3 := Lib.hid e3
  have H8 := Lib.hid h8
  clear h2 h3 e2 e3 h8
  go_wp2
  go_ret
  rw [setVar_0 x]
  have P := E3.out.setPre 8 H8.out (setVar x (varMask 0) (varBits 0))
  refine ⟨_, rfl, ⟨g, cap, by rw [List.length_set, HL.out]; rfl, E2.out, P.at_.bytPre⟩, ?_⟩
  exact P.below (((Below.refl _ _).alloc (Nat.le_refl _) _).grown H3.out (by simp) (by simp [Value.ownBlock])) (by have := H3.out.size; simp at this; omega) E2.out

set_option maxRecDepth 100000 in
theorem withVariant_1 (A : Option Addr) (c : Nat) (hc : A = none → c = 0) (bs : List UInt8) (hbs : bs.length = 16) (w : World) (hb : Byt w A bs) :
    Calls Try.prog 15 #[.slice A 16 c, .int .i64 1] w (NewOk (bs.set 8 (setVar (bs.getD 8 0) (varMask 1) (varBits 1))) w) := by
  have HL := Lib.hid hbs
  have HB := Lib.hid (Byt.below hb (B := w.heap.size) ((Below.refl _ _).alloc (Nat.le_refl _) (.cells #[] 5)) (Nat.le_refl _))
  have HO := Lib.hid (own_empty w 5 w.heap.size (Nat.le_refl _))
  have HC := Lib.hid hc
  clear hbs hb hc
  obtain ⟨x, hx⟩ : ∃ x, x = bs.getD 8 0 := ⟨_, rfl⟩
  rw [← hx]
  have HX := Lib.hid hx
  clear hx
  go_enter Try.func15, Try.ntmps15
  go_wp2_with (refine wpList_appB rfl (.tmp 6) (.tmp 7) 27 rfl w.heap.size 5 Try.underlying27 Try.info8 _ 0 [] (by rfl) HO.out A 16 c bs (by rfl) HB.out HL.out HC.out (by omega) (by simp) ?_)
  intro v' w2 h2 h3
  obtain ⟨-, g, cap, rest, e1, e2, e3⟩ := own_at (bs := bs) h2 (by omega)
  rw [e1]
  clear e1
  have h8 : 8 < bs.length := by rw [HL.out]; omega
  have cx : w2.cell? ⟨g, 8, none⟩ = some (.int .u8 (x.toNat : Int)) := by rw [e3.cellPre 8 h8, HX.out]; simp [List.getD, h8]
  have fx := e3.frozen 8
  have H3 := Lib.hid h3
  have E2 := Lib.hid e2
  have E3 := Lib.hid e3
  have H8 := Lib.hid h8
  clear h2 h3 e2 e3 h8
  go_wp2
  go_ret
  rw [setVar_walk x (varMask 1) (varBits 1) 63 128 rfl rfl]
  have P := E3.out.setPre 8 H8.out (setVar x (varMask 1) (varBits 1))
  refine ⟨_, rfl, ⟨g, cap, by rw [List.length_set, HL.out]; rfl, E2.out, P.at_.bytPre⟩, ?_⟩
  exact P.below (((Below.refl _ _).alloc (Nat.le_refl _) _).grown H3.out (by simp) (by simp [Value.ownBlock])) (by have := H3.out.size; simp at this; omega) E2.out

set_option maxRecDepth 100000 in
theorem withVariant_2 (A : Option Addr) (c : Nat) (hc : A = none → c = 0) (bs : List UInt8) (hbs : bs.length = 16) (w : World) (hb : Byt w A bs) :
    Calls Try.prog 15 #[.slice A 16 c, .int .i64 2] w (NewOk (bs.set 8 (setVar (bs.getD 8 0) (varMask 2) (varBits 2))) w) := by
  have HL := Lib.hid hbs
  have HB := Lib.hid (Byt.below hb (B := w.heap.size) ((Below.refl _ _).alloc (Nat.le_refl _) (.cells #[] 5)) (Nat.le_refl _))
  have HO := Lib.hid (own_empty w 5 w.heap.size (Nat.le_refl _))
  have HC := Lib.hid hc
  clear hbs hb hc
  obtain ⟨x, hx⟩ : ∃ x, x = bs.getD 8 0 := ⟨_, rfl⟩
  rw [← hx]
  have HX := Lib.hid hx
  clear hx
  go_enter Try.func15, Try.ntmps15
  go_wp2_with (refine wpList_appB rfl (.tmp 6) (.tmp 7) 27 rfl w.heap.size 5 Try.underlying27 Try.info8 _ 0 [] (by rfl) HO.out A 16 c bs (by rfl) HB.out HL.out HC.out (by omega) (by simp) ?_)
  intro v' w2 h2 h3
  obtain ⟨-, g, cap, rest, e1, e2, e3⟩ := own_at (bs := bs) h2 (by omega)
  rw [e1]
  clear e1
  have h8 : 8 < bs.length := by rw [HL.out]; omega
  have cx : w2.cell? ⟨g, 8, none⟩ = some (.int .u8 (x.toNat : Int)) := by rw [e3.cellPre 8 h8, HX.out]; simp [List.getD, h8]
  have fx := e3.frozen 8
  have H3 := Lib.hid h3
  have E2 := Lib.hid e2
  have E3 := Lib.hid e3
  have H8 := Lib.hid h8
  clear h2 h3 e2 e3 h8
  go_wp2
  go_ret
  rw [setVar_walk x (varMask 2) (varBits 2) 31 192 rfl rfl]
  have P := E3.out.setPre 8 H8.out (setVar x (varMask 2) (varBits 2))
  refine ⟨_, rfl, ⟨g, cap, by rw [List.length_set, HL.out]; rfl, E2.out, P.at_.bytPre⟩, ?_⟩
  exact P.below (((Below.refl _ _).alloc (Nat.le_refl _) _).grown H3.out (by simp) (by simp [Value.ownBlock])) (by have := H3.out.size; simp at this; omega) E2.out

set_option maxRecDepth 100000 in
theorem withVariant_3 (A : Option Addr) (c : Nat) (hc : A = none → c = 0) (bs : List UInt8) (hbs : bs.length = 16) (w : World) (hb : Byt w A bs) :
    Calls Try.prog 15 #[.slice A 16 c, .int .i64 3] w (NewOk (bs.set 8 (setVar (bs.getD 8 0) (varMask 3) (varBits 3))) w) := by
  have HL := Lib.hid hbs
  have HB := Lib.hid (Byt.below hb (B := w.heap.size) ((Below.refl _ _).alloc (Nat.le_refl _) (.cells #[] 5)) (Nat.le_refl _))
  have HO := Lib.hid (own_empty w 5 w.heap.size (Nat.le_refl _))
  have HC := Lib.hid hc
  clear hbs hb hc
  obtain ⟨x, hx⟩ : ∃ x, x = bs.getD 8 0 := ⟨_, rfl⟩
  rw [← hx]
  have HX := Lib.hid hx
  clear hx
  go_enter Try.func15, Try.ntmps15
  go_wp2_with (refine wpList_appB rfl (.tmp 6) (.tmp 7) 27 rfl w.heap.size 5 Try.underlying27 Try.info8 _ 0 [] (by rfl) HO.out A 16 c bs (by rfl) HB.out HL.out HC.out (by omega) (by simp) ?_)
  intro v' w2 h2 h3
  obtain ⟨-, g, cap, rest, e1, e2, e3⟩ := own_at (bs := bs) h2 (by omega)
  rw [e1]
  clear e1
  have h8 : 8 < bs.length := by rw [HL.out]; omega
  have cx : w2.cell? ⟨g, 8, none⟩ = some (.int .u8 (x.toNat : Int)) := by rw [e3.cellPre 8 h8, HX.out]; simp [List.getD, h8]
  have fx := e3.frozen 8
  have H3 := Lib.hid h3
  have E2 := Lib.hid e2
  have E3 := Lib.hid e3
  have H8 := Lib.hid h8
  clear h2 h3 e2 e3 h8
  go_wp2
  go_ret
  rw [setVar_3 x]
  have P := E3.out.setPre 8 H8.out (setVar x (varMask 3) (varBits 3))
  refine ⟨_, rfl, ⟨g, cap, by rw [List.length_set, HL.out]; rfl, E2.out, P.at_.bytPre⟩, ?_⟩
  exact P.below (((Below.refl _ _).alloc (Nat.le_refl _) _).grown H3.out (by simp) (by simp [Value.ownBlock])) (by have := H3.out.size; simp at this; omega) E2.out

set_option maxRecDepth 100000 in
theorem uuidSet_0 (A : Option Addr) (c : Nat) (bs : List UInt8) (hbs : bs.length = 16) (v : UInt8) (w : World) (hb : Byt w A bs) :
    Calls Try.prog 13 #[.slice A 16 c, .int .u8 (v.toNat : Int), .int .u8 0] w (ToldOk ((bs.set 6 (setVer (bs.getD 6 0) v)).set 8 (setVar ((bs.set 6 (setVer (bs.getD 6 0) v)).getD 8 0) (varMask 0) (varBits 0))) w) := by
  have HL := Lib.hid hbs
  have HB := Lib.hid hb
  clear hbs hb
  obtain ⟨Z, hZ⟩ : ∃ Z, Z = z16.map B8 := ⟨_, rfl⟩
  have hz : ∀ w, (zeroValue 63).run Try.prog w = .ok (.agg Z.toArray) w := hZ ▸ Try.zeroU
  have HZ := Lib.hid (show Z.length = 16 by simp [hZ, z16])
  have HBS := Lib.hid (sizeU_of bs HL.out)
  clear hZ
  obtain ⟨b2, hb2⟩ : ∃ b2, b2 = bs.set 6 (setVer (bs.getD 6 0) v) := ⟨_, rfl⟩
  rw [← hb2]
  obtain ⟨b3, hb3⟩ : ∃ b3, b3 = b2.set 8 (setVar (b2.getD 8 0) (varMask 0) (varBits 0)) := ⟨_, rfl⟩
  rw [← hb3]
  have L2 := Lib.hid (show b2.length = 16 by rw [hb2, List.length_set, HL.out])
  have L3 := Lib.hid (show b3.length = 16 by rw [hb3, List.length_set, L2.out])
  have HBS3 := Lib.hid (sizeU_of b3 L3.out)
  have B2 := Lib.hid hb2
  have B3 := Lib.hid hb3
  clear hb2 hb3
  go_enter Try.func13, Try.ntmps13
  go_wp2_with fail
  refine (fromBytes_yes A 16 c bs rfl HL.out w HB.out).mono ?_
  rintro e w1 ⟨rfl, bel1⟩
  have E1 := Lib.hid bel1
  clear bel1
  go_wp2_with (refine wpList_var rfl 63 rfl (.agg Z.toArray) Z hz rfl ?_)
  intro w2 h2
  have H2 := Lib.hid h2
  clear h2
  go_wp2_with (refine wpList_put rfl 63 (.tmp 8) (.tmp 13) rfl w1.heap.size (bs.map B8) (by rfl) (by rfl) 63 Z H2.out.at_ HBS.out (by rw [HZ.out, List.length_map, HL.out]) (B8_one _) ?_)
  intro w3 h3
  have H3 := Lib.hid h3
  clear h3
  go_wp2_with fail
  refine (setVersion_any w1.heap.size 63 bs HL.out v w3 H3.out.at_).mono ?_
  rw [← B2.out]
  rintro e w4 ⟨rfl, h4⟩
  have H4 := Lib.hid h4
  clear h4
  go_wp2_with fail
  refine (setVariant_0 w1.heap.size 63 b2 L2.out w4 H4.out.at_).mono ?_
  rw [← B3.out]
  rintro e w5 ⟨rfl, h5⟩
  have H5 := Lib.hid h5
  clear h5
  go_wp2_with (refine wpList_get rfl 63 (.tmp 8) rfl w1.heap.size (by rfl) 63 (b3.map B8) _ H5.out.at_ Try.underlying63 rfl HBS3.out ?_)
  refine (told_yes b3 L3.out w5).mono ?_
  rintro e w6 ⟨r, rfl, hr, bel6⟩
  have HR := Lib.hid hr
  have E6 := Lib.hid bel6
  clear hr bel6
  go_wp2
  go_ret2
  have s2 := H2.out.size
  have s3 := H3.out.size
  have s4 := H4.out.size
  have s5 := H5.out.size
  have sz := E1.out.size
  have bel : Below w.heap.size w w5 := H5.out.below (H4.out.below (H3.out.below (H2.out.below E1.out sz) (by omega) sz) (by omega) sz) (by omega) sz
  obtain ⟨g, cap, rfl, hg, hby⟩ := HR.out
  exact ⟨_, rfl, ⟨g, cap, rfl, by omega, hby⟩, bel.trans (E6.out.mono bel.size)⟩

set_option maxRecDepth 100000 in
theorem uuidSet_1 (A : Option Addr) (c : Nat) (bs : List UInt8) (hbs : bs.length = 16) (v : UInt8) (w : World) (hb : Byt w A bs) :
    Calls Try.prog 13 #[.slice A 16 c, .int .u8 (v.toNat : Int), .int .u8 1] w (ToldOk ((bs.set 6 (setVer (bs.getD 6 0) v)).set 8 (setVar ((bs.set 6 (setVer (bs.getD 6 0) v)).getD 8 0) (varMask 1) (varBits 1))) w) := by
  have HL := Lib.hid hbs
  have HB := Lib.hid hb
  clear hbs hb
  obtain ⟨Z, hZ⟩ : ∃ Z, Z = z16.map B8 := ⟨_, rfl⟩
  have hz : ∀ w, (zeroValue 63).run Try.prog w = .ok (.agg Z.toArray) w := hZ ▸ Try.zeroU
  have HZ := Lib.hid (show Z.length = 16 by simp [hZ, z16])
  have HBS := Lib.hid (sizeU_of bs HL.out)
  clear hZ
  obtain ⟨b2, hb2⟩ : ∃ b2, b2 = bs.set 6 (setVer (bs.getD 6 0) v) := ⟨_, rfl⟩
  rw [← hb2]
  obtain ⟨b3, hb3⟩ : ∃ b3, b3 = b2.set 8 (setVar (b2.getD 8 0) (varMask 1) (varBits 1)) := ⟨_, rfl⟩
  rw [← hb3]
  have L2 := Lib.hid (show b2.length = 16 by rw [hb2, List.length_set, HL.out])
  have L3 := Lib.hid (show b3.length = 16 by rw [hb3, List.length_set, L2.out])
  have HBS3 := Lib.hid (sizeU_of b3 L3.out)
  have B2 := Lib.hid hb2
  have B3 := Lib.hid hb3
  clear hb2 hb3
  go_enter Try.func13, Try.ntmps13
  go_wp2_with fail
  refine (fromBytes_yes A 16 c bs rfl HL.out w HB.out).mono ?_
  rintro e w1 ⟨rfl, bel1⟩
  have E1 := Lib.hid bel1
  clear bel1
  go_wp2_with (refine wpList_var rfl 63 rfl (.agg Z.toArray) Z hz rfl ?_)
  intro w2 h2
  have H2 := Lib.hid h2
  clear h2
  go_wp2_with (refine wpList_put rfl 63 (.tmp 8) (.tmp 13) rfl w1.heap.size (bs.map B8) (by rfl) (by rfl) 63 Z H2.out.at_ HBS.out (by rw [HZ.out, List.length_map, HL.out]) (B8_one _) ?_)
  intro w3 h3
  have H3 := Lib.hid h3
  clear h3
  go_wp2_with fail
  refine (setVersion_any w1.heap.size 63 bs HL.out v w3 H3.out.at_).mono ?_
  rw [← B2.out]
  rintro e w4 ⟨rfl, h4⟩
  have H4 := Lib.hid h4
  clear h4
  go_wp2_with fail
  refine (setVariant_1 w1.heap.size 63 b2 L2.out w4 H4.out.at_).mono ?_
  rw [← B3.out]
  rintro e w5 ⟨rfl, h5⟩
  have H5 := Lib.hid h5
  clear h5
  go_wp2_with (refine wpList_get rfl 63 (.tmp 8) rfl w1.heap.size (by rfl) 63 (b3.map B8) _ H5.out.at_ Try.underlying63 rfl HBS3.out ?_)
  refine (told_yes b3 L3.out w5).mono ?_
  rintro e w6 ⟨r, rfl, hr, bel6⟩
  have HR := Lib.hid hr
  have E6 := Lib.hid bel6
  clear hr bel6
  go_wp2
  go_ret2
  have s2 := H2.out.size
  have s3 := H3.out.size
  have s4 := H4.out.size
  have s5 := H5.out.size
  have sz := E1.out.size
  have bel : Below w.heap.size w w5 := H5.out.below (H4.out.below (H3.out.below (H2.out.below E1.out sz) (by omega) sz) (by omega) sz) (by omega) sz
  obtain ⟨g, cap, rfl, hg, hby⟩ := HR.out
  exact ⟨_, rfl, ⟨g, cap, rfl, by omega, hby⟩, bel.trans (E6.out.mono bel.size)⟩

set_option maxRecDepth 100000 in
theorem uuidSet_2 (A : Option Addr) (c : Nat) (bs : List UInt8) (hbs : bs.length = 16) (v : UInt8) (w : World) (hb : Byt w A bs) :
    Calls Try.prog 13 #[.slice A 16 c, .int .u8 (v.toNat : Int), .int .u8 2] w (ToldOk ((bs.set 6 (setVer (bs.getD 6 0) v)).set 8 (setVar ((bs.set 6 (setVer (bs.getD 6 0) v)).getD 8 0) (varMask 2) (varBits 2))) w) := by
  have HL := Lib.hid hbs
  have HB := Lib.hid hb
  clear hbs hb
  obtain ⟨Z, hZ⟩ : ∃ Z, Z = z16.map B8 := ⟨_, rfl⟩
  have hz : ∀ w, (zeroValue 63).run Try.prog w = .ok (.agg Z.toArray) w := hZ ▸ Try.zeroU
  have HZ := Lib.hid (show Z.length = 16 by simp [hZ, z16])
  have HBS := Lib.hid (sizeU_of bs HL.out)
  clear hZ
  obtain ⟨b2, hb2⟩ : ∃ b2, b2 = bs.set 6 (setVer (bs.getD 6 0) v) := ⟨_, rfl⟩
  rw [← hb2]
  obtain ⟨b3, hb3⟩ : ∃ b3, b3 = b2.set 8 (setVar (b2.getD 8 0) (varMask 2) (varBits 2)) := ⟨_, rfl⟩
  rw [← hb3]
  have L2 := Lib.hid (show b2.length = 16 by rw [hb2, List.length_set, HL.out])
  have L3 := Lib.hid (show b3.length = 16 by rw [hb3, List.length_set, L2.out])
  have HBS3 := Lib.hid (sizeU_of b3 L3.out)
  have B2 := Lib.hid hb2
  have B3 := Lib.hid hb3
  clear hb2 hb3
  go_enter Try.func13, Try.ntmps13
  go_wp2_with fail
  refine (fromBytes_yes A 16 c bs rfl HL.out w HB.out).mono ?_
  rintro e w1 ⟨rfl, bel1⟩
  have E1 := Lib.hid bel1
  clear bel1
  go_wp2_with (refine wpList_var rfl 63 rfl (.agg Z.toArray) Z hz rfl ?_)
  intro w2 h2
  have H2 := Lib.hid h2
  clear h2
  go_wp2_with (refine wpList_put rfl 63 (.tmp 8) (.tmp 13) rfl w1.heap.size (bs.map B8) (by rfl) (by rfl) 63 Z H2.out.at_ HBS.out (by rw [HZ.out, List.length_map, HL.out]) (B8_one _) ?_)
  intro w3 h3
  have H3 := Lib.hid h3
  clear h3
  go_wp2_with fail
  refine (setVersion_any w1.heap.size 63 bs HL.out v w3 H3.out.at_).mono ?_
  rw [← B2.out]
  rintro e w4 ⟨rfl, h4⟩
  have H4 := Lib.hid h4
  clear h4
  go_wp2_with fail
  refine (setVariant_2 w1.heap.size 63 b2 L2.out w4 H4.out.at_).mono ?_
  rw [← B3.out]
  rintro e w5 ⟨rfl, h5⟩
  have H5 := Lib.hid h5
  clear h5
  go_wp2_with (refine wpList_get rfl 63 (.tmp 8) rfl w1.heap.size (by rfl) 63 (b3.map B8) _ H5.out.at_ Try.underlying63 rfl HBS3.out ?_)
  refine (told_yes b3 L3.out w5).mono ?_
  rintro e w6 ⟨r, rfl, hr, bel6⟩
  have HR := Lib.hid hr
  have E6 := Lib.hid bel6
  clear hr bel6
  go_wp2
  go_ret2
  have s2 := H2.out.size
  have s3 := H3.out.size
  have s4 := H4.out.size
  have s5 := H5.out.size
  have sz := E1.out.size
  have bel : Below w.heap.size w w5 := H5.out.below (H4.out.below (H3.out.below (H2.out.below E1.out sz) (by omega) sz) (by omega) sz) (by omega) sz
  obtain ⟨g, cap, rfl, hg, hby⟩ := HR.out
  exact ⟨_, rfl, ⟨g, cap, rfl, by omega, hby⟩, bel.trans (E6.out.mono bel.size)⟩

set_option maxRecDepth 100000 in
theorem uuidSet_3 (A : Option Addr) (c : Nat) (bs : List UInt8) (hbs : bs.length = 16) (v : UInt8) (w : World) (hb : Byt w A bs) :
    Calls Try.prog 13 #[.slice A 16 c, .int .u8 (v.toNat : Int), .int .u8 3] w (ToldOk ((bs.set 6 (setVer (bs.getD 6 0) v)).set 8 (setVar ((bs.set 6 (setVer (bs.getD 6 0) v)).getD 8 0) (varMask 3) (varBits 3))) w) := by
  have HL := Lib.hid hbs
  have HB := Lib.hid hb
  clear hbs hb
  obtain ⟨Z, hZ⟩ : ∃ Z, Z = z16.map B8 := ⟨_, rfl⟩
  have hz : ∀ w, (zeroValue 63).run Try.prog w = .ok (.agg Z.toArray) w := hZ ▸ Try.zeroU
  have HZ := Lib.hid (show Z.length = 16 by simp [hZ, z16])
  have HBS := Lib.hid (sizeU_of bs HL.out)
  clear hZ
  obtain ⟨b2, hb2⟩ : ∃ b2, b2 = bs.set 6 (setVer (bs.getD 6 0) v) := ⟨_, rfl⟩
  rw [← hb2]
  obtain ⟨b3, hb3⟩ : ∃ b3, b3 = b2.set 8 (setVar (b2.getD 8 0) (varMask 3) (varBits 3)) := ⟨_, rfl⟩
  rw [← hb3]
  have L2 := Lib.hid (show b2.length = 16 by rw [hb2, List.length_set, HL.out])
  have L3 := Lib.hid (show b3.length = 16 by rw [hb3, List.length_set, L2.out])
  have HBS3 := Lib.hid (sizeU_of b3 L3.out)
  have B2 := Lib.hid hb2
  have B3 := Lib.hid hb3
  clear hb2 hb3
  go_enter Try.func13, Try.ntmps13
  go_wp2_with fail
  refine (fromBytes_yes A 16 c bs rfl HL.out w HB.out).mono ?_
  rintro e w1 ⟨rfl, bel1⟩
  have E1 := Lib.hid bel1
  clear bel1
  go_wp2_with (refine wpList_var rfl 63 rfl (.agg Z.toArray) Z hz rfl ?_)
  intro w2 h2
  have H2 := Lib.hid h2
  clear h2
  go_wp2_with (refine wpList_put rfl 63 (.tmp 8) (.tmp 13) rfl w1.heap.size (bs.map B8) (by rfl) (by rfl) 63 Z H2.out.at_ HBS.out (by rw [HZ.out, List.length_map, HL.out]) (B8_one _) ?_)
  intro w3 h3
  have H3 := Lib.hid h3
  clear h3
  go_wp2_with fail
  refine (setVersion_any w1.heap.size 63 bs HL.out v w3 H3.out.at_).mono ?_
  rw [← B2.out]
  rintro e w4 ⟨rfl, h4⟩
  have H4 := Lib.hid h4
  clear h4
  go_wp2_with fail
  refine (setVariant_3 w1.heap.size 63 b2 L2.out w4 H4.out.at_).mono ?_
  rw [← B3.out]
  rintro e w5 ⟨rfl, h5⟩
  have H5 := Lib.hid h5
  clear h5
  go_wp2_with (refine wpList_get rfl 63 (.tmp 8) rfl w1.heap.size (by rfl) 63 (b3.map B8) _ H5.out.at_ Try.underlying63 rfl HBS3.out ?_)
  refine (told_yes b3 L3.out w5).mono ?_
  rintro e w6 ⟨r, rfl, hr, bel6⟩
  have HR := Lib.hid hr
  have E6 := Lib.hid bel6
  clear hr bel6
  go_wp2
  go_ret2
  have s2 := H2.out.size
  have s3 := H3.out.size
  have s4 := H4.out.size
  have s5 := H5.out.size
  have sz := E1.out.size
  have bel : Below w.heap.size w w5 := H5.out.below (H4.out.below (H3.out.below (H2.out.below E1.out sz) (by omega) sz) (by omega) sz) (by omega) sz
  obtain ⟨g, cap, rfl, hg, hby⟩ := HR.out
  exact ⟨_, rfl, ⟨g, cap, rfl, by omega, hby⟩, bel.trans (E6.out.mono bel.size)⟩
end Go.Proofs.Ytnofmiinbmfbnaa
