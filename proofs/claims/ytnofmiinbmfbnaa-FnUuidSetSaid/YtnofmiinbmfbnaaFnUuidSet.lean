/-
  The walk of FnUuidSet.
-/
import Derived.Test.YtnofmiinbmfbnaaUuidSet
import Derived.Test.YtnofmiinbmfbnaaCmp
import Derived.Test.YtnofmiinbmfbnaaRow
namespace Go.Proofs.Ytnofmiinbmfbnaa
open Go.RowKit

set_option maxRecDepth 100000 in
theorem set_law_0 (A : Option Addr) (c : Nat) (hc : A = none → c = 0) (bs : List UInt8) (hbs : bs.length = 16) (a1 a2 : Int) (v : UInt8) (p1 : 0 ≤ a1) (p2 : 0 ≤ a2) (hv : a1 % 16 = (v.toNat : Int)) (hk : a2 % 4 = 0) (w : World) (hb : Byt w A bs) :
    Calls Try.prog 4 #[.slice A 16 c, .int .u8 a1, .int .u8 a2] w fun e w' => e = .returned (.bool true) ∧ Below w.heap.size w w' := by
  have HL := Lib.hid hbs
  have HB0 := Lib.hid hb
  have HB := Lib.hid (Byt.below hb (B := w.heap.size) ((Below.refl _ _).alloc (Nat.le_refl _) (.cells #[] 5)) (Nat.le_refl _))
  have HO := Lib.hid (own_empty w 5 w.heap.size (Nat.le_refl _))
  have HC := Lib.hid hc
  clear hbs hb hc
  obtain ⟨x, hx⟩ : ∃ x, x = bs.getD 6 0 := ⟨_, rfl⟩
  have HX := Lib.hid hx
  clear hx
  go_enter Try.func4, Try.ntmps4
  go_wp2_with (refine wpList_appB rfl (.tmp 22) (.tmp 23) 27 rfl w.heap.size 5 Try.underlying27 Try.info8 _ 0 [] (by rfl) HO.out A 16 c bs (by rfl) HB.out HL.out HC.out (by omega) (by simp) ?_)
  intro v' w2 h2 h3
  obtain ⟨-, g, cap, rest, e1, e2, e3⟩ := own_at (bs := bs) h2 (by omega)
  rw [e1]
  clear e1
  have h6 : 6 < bs.length := by rw [HL.out]; omega
  have cx : w2.cell? ⟨g, 6, none⟩ = some (.int .u8 (x.toNat : Int)) := by rw [e3.cellPre 6 h6, HX.out]; simp [List.getD, h6]
  have fx := e3.frozen 6
  have H3 := Lib.hid h3
  have E2 := Lib.hid e2
  have E3 := Lib.hid e3
  have H6 := Lib.hid h6
  clear h2 h3 e2 e3 h6
  go_wp2_with fail
  rw [setVer_walk' x v (by omega)]
  have P := E3.out.setPre 6 H6.out (setVer x v)
  have bel3 : Below w.heap.size w (w2.setCell ⟨g, 6, none⟩ (.int .u8 ((setVer x v).toNat : Int))) :=
    P.below (((Below.refl _ _).alloc (Nat.le_refl _) _).grown H3.out (by simp) (by simp [Value.ownBlock])) (by have := H3.out.size; simp at this; omega) E2.out
  generalize w2.setCell ⟨g, 6, none⟩ (.int .u8 ((setVer x v).toNat : Int)) = w3 at P bel3 ⊢
  have B3 := Lib.hid bel3
  have P3 := Lib.hid P
  clear bel3 P cx fx
  refine (uuidSet_0 A c bs HL.out v w3 (HB0.out.below B3.out (Nat.le_refl _))).mono ?_
  rw [← HX.out]
  obtain ⟨b6, hb6⟩ : ∃ b6, b6 = bs.set 6 (setVer x v) := ⟨_, rfl⟩
  rw [← hb6]
  have H7 := Lib.hid hb6
  clear hb6
  obtain ⟨b8, hb8⟩ : ∃ b8, b8 = b6.set 8 (setVar (b6.getD 8 0) (varMask 0) (varBits 0)) := ⟨_, rfl⟩
  rw [← hb8]
  have H8 := Lib.hid hb8
  clear hb8
  rintro e w4 ⟨r, rfl, ⟨g4, c4, rfl, hg4, hby4⟩, bel4⟩
  have B4 := Lib.hid bel4
  have G4 := Lib.hid hby4
  clear hg4 bel4 hby4
  go_wp2_with fail
  have byw : Byt w4 (some ⟨g, 0, none⟩) b6 := (by rw [H7.out]; exact P3.out.at_.bytPre : Byt w3 (some ⟨g, 0, none⟩) b6).below B4.out (Nat.le_refl _)
  refine (withVariant_0 (some ⟨g, 0, none⟩) cap (by simp) b6 (by rw [H7.out, List.length_set, HL.out]) w4 byw).mono ?_
  rw [← H8.out]
  rintro e w5 ⟨r, rfl, ⟨g5, c5, rfl, hg5, hby5⟩, bel5⟩
  have B5 := Lib.hid bel5
  have G5 := Lib.hid hby5
  clear hg5 bel5 hby5
  go_wp2_with fail
  have L8 : b8.length = 16 := by rw [H8.out, List.length_set, H7.out, List.length_set, HL.out]
  refine (same_any (some ⟨g4, 0, none⟩) (some ⟨g5, 0, none⟩) b8.length b8.length c4 c5 b8 b8 rfl rfl (by omega) w5 (G4.out.below B5.out (Nat.le_refl _)) G5.out).mono ?_
  rw [sameB_self]
  intro e w6 h
  obtain ⟨rfl, bel6⟩ := h.below
  have B6 := Lib.hid bel6
  clear h bel6 L8
  go_wp2
  go_ret
  refine ⟨rfl, ?_⟩
  exact B3.out.trans ((B4.out.mono B3.out.size).trans ((B5.out.mono (Nat.le_trans B3.out.size B4.out.size)).trans (B6.out.mono (Nat.le_trans B3.out.size (Nat.le_trans B4.out.size B5.out.size)))))

set_option maxRecDepth 100000 in
theorem set_law_1 (A : Option Addr) (c : Nat) (hc : A = none → c = 0) (bs : List UInt8) (hbs : bs.length = 16) (a1 a2 : Int) (v : UInt8) (p1 : 0 ≤ a1) (p2 : 0 ≤ a2) (hv : a1 % 16 = (v.toNat : Int)) (hk : a2 % 4 = 1) (w : World) (hb : Byt w A bs) :
    Calls Try.prog 4 #[.slice A 16 c, .int .u8 a1, .int .u8 a2] w fun e w' => e = .returned (.bool true) ∧ Below w.heap.size w w' := by
  have HL := Lib.hid hbs
  have HB0 := Lib.hid hb
  have HB := Lib.hid (Byt.below hb (B := w.heap.size) ((Below.refl _ _).alloc (Nat.le_refl _) (.cells #[] 5)) (Nat.le_refl _))
  have HO := Lib.hid (own_empty w 5 w.heap.size (Nat.le_refl _))
  have HC := Lib.hid hc
  clear hbs hb hc
  obtain ⟨x, hx⟩ : ∃ x, x = bs.getD 6 0 := ⟨_, rfl⟩
  have HX := Lib.hid hx
  clear hx
  go_enter Try.func4, Try.ntmps4
  go_wp2_with (refine wpList_appB rfl (.tmp 22) (.tmp 23) 27 rfl w.heap.size 5 Try.underlying27 Try.info8 _ 0 [] (by rfl) HO.out A 16 c bs (by rfl) HB.out HL.out HC.out (by omega) (by simp) ?_)
  intro v' w2 h2 h3
  obtain ⟨-, g, cap, rest, e1, e2, e3⟩ := own_at (bs := bs) h2 (by omega)
  rw [e1]
  clear e1
  have h6 : 6 < bs.length := by rw [HL.out]; omega
  have cx : w2.cell? ⟨g, 6, none⟩ = some (.int .u8 (x.toNat : Int)) := by rw [e3.cellPre 6 h6, HX.out]; simp [List.getD, h6]
  have fx := e3.frozen 6
  have H3 := Lib.hid h3
  have E2 := Lib.hid e2
  have E3 := Lib.hid e3
  have H6 := Lib.hid h6
  clear h2 h3 e2 e3 h6
  go_wp2_with fail
  rw [setVer_walk' x v (by omega)]
  have P := E3.out.setPre 6 H6.out (setVer x v)
  have bel3 : Below w.heap.size w (w2.setCell ⟨g, 6, none⟩ (.int .u8 ((setVer x v).toNat : Int))) :=
    P.below (((Below.refl _ _).alloc (Nat.le_refl _) _).grown H3.out (by simp) (by simp [Value.ownBlock])) (by have := H3.out.size; simp at this; omega) E2.out
  generalize w2.setCell ⟨g, 6, none⟩ (.int .u8 ((setVer x v).toNat : Int)) = w3 at P bel3 ⊢
  have B3 := Lib.hid bel3
  have P3 := Lib.hid P
  clear bel3 P cx fx
  refine (uuidSet_1 A c bs HL.out v w3 (HB0.out.below B3.out (Nat.le_refl _))).mono ?_
  rw [← HX.out]
  obtain ⟨b6, hb6⟩ : ∃ b6, b6 = bs.set 6 (setVer x v) := ⟨_, rfl⟩
  rw [← hb6]
  have H7 := Lib.hid hb6
  clear hb6
  obtain ⟨b8, hb8⟩ : ∃ b8, b8 = b6.set 8 (setVar (b6.getD 8 0) (varMask 1) (varBits 1)) := ⟨_, rfl⟩
  rw [← hb8]
  have H8 := Lib.hid hb8
  clear hb8
  rintro e w4 ⟨r, rfl, ⟨g4, c4, rfl, hg4, hby4⟩, bel4⟩
  have B4 := Lib.hid bel4
  have G4 := Lib.hid hby4
  clear hg4 bel4 hby4
  go_wp2_with fail
  have byw : Byt w4 (some ⟨g, 0, none⟩) b6 := (by rw [H7.out]; exact P3.out.at_.bytPre : Byt w3 (some ⟨g, 0, none⟩) b6).below B4.out (Nat.le_refl _)
  refine (withVariant_1 (some ⟨g, 0, none⟩) cap (by simp) b6 (by rw [H7.out, List.length_set, HL.out]) w4 byw).mono ?_
  rw [← H8.out]
  rintro e w5 ⟨r, rfl, ⟨g5, c5, rfl, hg5, hby5⟩, bel5⟩
  have B5 := Lib.hid bel5
  have G5 := Lib.hid hby5
  clear hg5 bel5 hby5
  go_wp2_with fail
  have L8 : b8.length = 16 := by rw [H8.out, List.length_set, H7.out, List.length_set, HL.out]
  refine (same_any (some ⟨g4, 0, none⟩) (some ⟨g5, 0, none⟩) b8.length b8.length c4 c5 b8 b8 rfl rfl (by omega) w5 (G4.out.below B5.out (Nat.le_refl _)) G5.out).mono ?_
  rw [sameB_self]
  intro e w6 h
  obtain ⟨rfl, bel6⟩ := h.below
  have B6 := Lib.hid bel6
  clear h bel6 L8
  go_wp2
  go_ret
  refine ⟨rfl, ?_⟩
  exact B3.out.trans ((B4.out.mono B3.out.size).trans ((B5.out.mono (Nat.le_trans B3.out.size B4.out.size)).trans (B6.out.mono (Nat.le_trans B3.out.size (Nat.le_trans B4.out.size B5.out.size)))))

set_option maxRecDepth 100000 in
theorem set_law_2 (A : Option Addr) (c : Nat) (hc : A = none → c = 0) (bs : List UInt8) (hbs : bs.length = 16) (a1 a2 : Int) (v : UInt8) (p1 : 0 ≤ a1) (p2 : 0 ≤ a2) (hv : a1 % 16 = (v.toNat : Int)) (hk : a2 % 4 = 2) (w : World) (hb : Byt w A bs) :
    Calls Try.prog 4 #[.slice A 16 c, .int .u8 a1, .int .u8 a2] w fun e w' => e = .returned (.bool true) ∧ Below w.heap.size w w' := by
  have HL := Lib.hid hbs
  have HB0 := Lib.hid hb
  have HB := Lib.hid (Byt.below hb (B := w.heap.size) ((Below.refl _ _).alloc (Nat.le_refl _) (.cells #[] 5)) (Nat.le_refl _))
  have HO := Lib.hid (own_empty w 5 w.heap.size (Nat.le_refl _))
  have HC := Lib.hid hc
  clear hbs hb hc
  obtain ⟨x, hx⟩ : ∃ x, x = bs.getD 6 0 := ⟨_, rfl⟩
  have HX := Lib.hid hx
  clear hx
  go_enter Try.func4, Try.ntmps4
  go_wp2_with (refine wpList_appB rfl (.tmp 22) (.tmp 23) 27 rfl w.heap.size 5 Try.underlying27 Try.info8 _ 0 [] (by rfl) HO.out A 16 c bs (by rfl) HB.out HL.out HC.out (by omega) (by simp) ?_)
  intro v' w2 h2 h3
  obtain ⟨-, g, cap, rest, e1, e2, e3⟩ := own_at (bs := bs) h2 (by omega)
  rw [e1]
  clear e1
  have h6 : 6 < bs.length := by rw [HL.out]; omega
  have cx : w2.cell? ⟨g, 6, none⟩ = some (.int .u8 (x.toNat : Int)) := by rw [e3.cellPre 6 h6, HX.out]; simp [List.getD, h6]
  have fx := e3.frozen 6
  have H3 := Lib.hid h3
  have E2 := Lib.hid e2
  have E3 := Lib.hid e3
  have H6 := Lib.hid h6
  clear h2 h3 e2 e3 h6
  go_wp2_with fail
  rw [setVer_walk' x v (by omega)]
  have P := E3.out.setPre 6 H6.out (setVer x v)
  have bel3 : Below w.heap.size w (w2.setCell ⟨g, 6, none⟩ (.int .u8 ((setVer x v).toNat : Int))) :=
    P.below (((Below.refl _ _).alloc (Nat.le_refl _) _).grown H3.out (by simp) (by simp [Value.ownBlock])) (by have := H3.out.size; simp at this; omega) E2.out
  generalize w2.setCell ⟨g, 6, none⟩ (.int .u8 ((setVer x v).toNat : Int)) = w3 at P bel3 ⊢
  have B3 := Lib.hid bel3
  have P3 := Lib.hid P
  clear bel3 P cx fx
  refine (uuidSet_2 A c bs HL.out v w3 (HB0.out.below B3.out (Nat.le_refl _))).mono ?_
  rw [← HX.out]
  obtain ⟨b6, hb6⟩ : ∃ b6, b6 = bs.set 6 (setVer x v) := ⟨_, rfl⟩
  rw [← hb6]
  have H7 := Lib.hid hb6
  clear hb6
  obtain ⟨b8, hb8⟩ : ∃ b8, b8 = b6.set 8 (setVar (b6.getD 8 0) (varMask 2) (varBits 2)) := ⟨_, rfl⟩
  rw [← hb8]
  have H8 := Lib.hid hb8
  clear hb8
  rintro e w4 ⟨r, rfl, ⟨g4, c4, rfl, hg4, hby4⟩, bel4⟩
  have B4 := Lib.hid bel4
  have G4 := Lib.hid hby4
  clear hg4 bel4 hby4
  go_wp2_with fail
  have byw : Byt w4 (some ⟨g, 0, none⟩) b6 := (by rw [H7.out]; exact P3.out.at_.bytPre : Byt w3 (some ⟨g, 0, none⟩) b6).below B4.out (Nat.le_refl _)
  refine (withVariant_2 (some ⟨g, 0, none⟩) cap (by simp) b6 (by rw [H7.out, List.length_set, HL.out]) w4 byw).mono ?_
  rw [← H8.out]
  rintro e w5 ⟨r, rfl, ⟨g5, c5, rfl, hg5, hby5⟩, bel5⟩
  have B5 := Lib.hid bel5
  have G5 := Lib.hid hby5
  clear hg5 bel5 hby5
  go_wp2_with fail
  have L8 : b8.length = 16 := by rw [H8.out, List.length_set, H7.out, List.length_set, HL.out]
  refine (same_any (some ⟨g4, 0, none⟩) (some ⟨g5, 0, none⟩) b8.length b8.length c4 c5 b8 b8 rfl rfl (by omega) w5 (G4.out.below B5.out (Nat.le_refl _)) G5.out).mono ?_
  rw [sameB_self]
  intro e w6 h
  obtain ⟨rfl, bel6⟩ := h.below
  have B6 := Lib.hid bel6
  clear h bel6 L8
  go_wp2
  go_ret
  refine ⟨rfl, ?_⟩
  exact B3.out.trans ((B4.out.mono B3.out.size).trans ((B5.out.mono (Nat.le_trans B3.out.size B4.out.size)).trans (B6.out.mono (Nat.le_trans B3.out.size (Nat.le_trans B4.out.size B5.out.size)))))

set_option maxRecDepth 100000 in
theorem set_law_3 (A : Option Addr) (c : Nat) (hc : A = none → c = 0) (bs : List UInt8) (hbs : bs.length = 16) (a1 a2 : Int) (v : UInt8) (p1 : 0 ≤ a1) (p2 : 0 ≤ a2) (hv : a1 % 16 = (v.toNat : Int)) (hk : a2 % 4 = 3) (w : World) (hb : Byt w A bs) :
    Calls Try.prog 4 #[.slice A 16 c, .int .u8 a1, .int .u8 a2] w fun e w' => e = .returned (.bool true) ∧ Below w.heap.size w w' := by
  have HL := Lib.hid hbs
  have HB0 := Lib.hid hb
  have HB := Lib.hid (Byt.below hb (B := w.heap.size) ((Below.refl _ _).alloc (Nat.le_refl _) (.cells #[] 5)) (Nat.le_refl _))
  have HO := Lib.hid (own_empty w 5 w.heap.size (Nat.le_refl _))
  have HC := Lib.hid hc
  clear hbs hb hc
  obtain ⟨x, hx⟩ : ∃ x, x = bs.getD 6 0 := ⟨_, rfl⟩
  have HX := Lib.hid hx
  clear hx
  go_enter Try.func4, Try.ntmps4
  go_wp2_with (refine wpList_appB rfl (.tmp 22) (.tmp 23) 27 rfl w.heap.size 5 Try.underlying27 Try.info8 _ 0 [] (by rfl) HO.out A 16 c bs (by rfl) HB.out HL.out HC.out (by omega) (by simp) ?_)
  intro v' w2 h2 h3
  obtain ⟨-, g, cap, rest, e1, e2, e3⟩ := own_at (bs := bs) h2 (by omega)
  rw [e1]
  clear e1
  have h6 : 6 < bs.length := by rw [HL.out]; omega
  have cx : w2.cell? ⟨g, 6, none⟩ = some (.int .u8 (x.toNat : Int)) := by rw [e3.cellPre 6 h6, HX.out]; simp [List.getD, h6]
  have fx := e3.frozen 6
  have H3 := Lib.hid h3
  have E2 := Lib.hid e2
  have E3 := Lib.hid e3
  have H6 := Lib.hid h6
  clear h2 h3 e2 e3 h6
  go_wp2_with fail
  rw [setVer_walk' x v (by omega)]
  have P := E3.out.setPre 6 H6.out (setVer x v)
  have bel3 : Below w.heap.size w (w2.setCell ⟨g, 6, none⟩ (.int .u8 ((setVer x v).toNat : Int))) :=
    P.below (((Below.refl _ _).alloc (Nat.le_refl _) _).grown H3.out (by simp) (by simp [Value.ownBlock])) (by have := H3.out.size; simp at this; omega) E2.out
  generalize w2.setCell ⟨g, 6, none⟩ (.int .u8 ((setVer x v).toNat : Int)) = w3 at P bel3 ⊢
  have B3 := Lib.hid bel3
  have P3 := Lib.hid P
  clear bel3 P cx fx
  refine (uuidSet_3 A c bs HL.out v w3 (HB0.out.below B3.out (Nat.le_refl _))).mono ?_
  rw [← HX.out]
  obtain ⟨b6, hb6⟩ : ∃ b6, b6 = bs.set 6 (setVer x v) := ⟨_, rfl⟩
  rw [← hb6]
  have H7 := Lib.hid hb6
  clear hb6
  obtain ⟨b8, hb8⟩ : ∃ b8, b8 = b6.set 8 (setVar (b6.getD 8 0) (varMask 3) (varBits 3)) := ⟨_, rfl⟩
  rw [← hb8]
  have H8 := Lib.hid hb8
  clear hb8
  rintro e w4 ⟨r, rfl, ⟨g4, c4, rfl, hg4, hby4⟩, bel4⟩
  have B4 := Lib.hid bel4
  have G4 := Lib.hid hby4
  clear hg4 bel4 hby4
  go_wp2_with fail
  have byw : Byt w4 (some ⟨g, 0, none⟩) b6 := (by rw [H7.out]; exact P3.out.at_.bytPre : Byt w3 (some ⟨g, 0, none⟩) b6).below B4.out (Nat.le_refl _)
  refine (withVariant_3 (some ⟨g, 0, none⟩) cap (by simp) b6 (by rw [H7.out, List.length_set, HL.out]) w4 byw).mono ?_
  rw [← H8.out]
  rintro e w5 ⟨r, rfl, ⟨g5, c5, rfl, hg5, hby5⟩, bel5⟩
  have B5 := Lib.hid bel5
  have G5 := Lib.hid hby5
  clear hg5 bel5 hby5
  go_wp2_with fail
  have L8 : b8.length = 16 := by rw [H8.out, List.length_set, H7.out, List.length_set, HL.out]
  refine (same_any (some ⟨g4, 0, none⟩) (some ⟨g5, 0, none⟩) b8.length b8.length c4 c5 b8 b8 rfl rfl (by omega) w5 (G4.out.below B5.out (Nat.le_refl _)) G5.out).mono ?_
  rw [sameB_self]
  intro e w6 h
  obtain ⟨rfl, bel6⟩ := h.below
  have B6 := Lib.hid bel6
  clear h bel6 L8
  go_wp2
  go_ret
  refine ⟨rfl, ?_⟩
  exact B3.out.trans ((B4.out.mono B3.out.size).trans ((B5.out.mono (Nat.le_trans B3.out.size B4.out.size)).trans (B6.out.mono (Nat.le_trans B3.out.size (Nat.le_trans B4.out.size B5.out.size)))))

set_option maxRecDepth 100000 in
theorem set_law_len (A : Option Addr) (n c : Nat) (hn : n ≠ 16) (a1 a2 : Int) (w : World) :
    Calls Try.prog 4 #[.slice A n c, .int .u8 a1, .int .u8 a2] w fun e w' => e = .returned (.bool true) ∧ Below w.heap.size w w' := by
  have t1 : ((n : Int) != 16) = true := by rw [bne_iff_ne]; omega
  by_cases h : (2147483647 : Int) < (n : Int)
  · go_enter Try.func4, Try.ntmps4
    go_wp2
    go_ret
    exact ⟨rfl, Below.refl _ _⟩
  · go_enter Try.func4, Try.ntmps4
    go_wp2
    go_ret
    exact ⟨rfl, Below.refl _ _⟩

theorem walk_FnUuidSet (a0 : Option Addr) (len0 cap0 : Nat) (z0 : List Int) (a1 a2 : Int) (w : World) (w0 : IsRow .u8 w a0 len0 cap0 z0) (w1 : (Lit.int .u8 a1).wf = true) (w2 : (Lit.int .u8 a2).wf = true) :
    Calls Try.prog 4 #[.slice a0 len0 cap0, .int .u8 a1, .int .u8 a2] w fun e w' => e = .returned (.bool true) ∧ Below w.heap.size w w' := by
  obtain ⟨bs, h1, h2, h3, h4⟩ := bytes_of_row w0
  obtain ⟨-, p1, q1⟩ := u8_of_wf a1 w1
  obtain ⟨-, p2, q2⟩ := u8_of_wf a2 w2
  by_cases hn : len0 = 16
  · subst hn
    have hv : a1 % 16 = ((UInt8.ofNat (a1.toNat % 16)).toNat : Int) := by rw [UInt8.toNat_ofNat']; omega
    have hk : a2 % 4 = 0 ∨ a2 % 4 = 1 ∨ a2 % 4 = 2 ∨ a2 % 4 = 3 := by omega
    rcases hk with hk | hk | hk | hk
    · exact set_law_0 a0 cap0 h3 bs h1 a1 a2 _ p1 p2 hv hk w h2
    · exact set_law_1 a0 cap0 h3 bs h1 a1 a2 _ p1 p2 hv hk w h2
    · exact set_law_2 a0 cap0 h3 bs h1 a1 a2 _ p1 p2 hv hk w h2
    · exact set_law_3 a0 cap0 h3 bs h1 a1 a2 _ p1 p2 hv hk w h2
  · exact set_law_len a0 len0 cap0 hn a1 a2 w
end Go.Proofs.Ytnofmiinbmfbnaa
