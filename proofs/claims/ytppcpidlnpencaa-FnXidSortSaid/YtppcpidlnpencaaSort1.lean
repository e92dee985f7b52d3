/-
  The methods of xid's sorter: Len, Less, Swap.
-/
import Derived.Test.YtppcpidlnpencaaCompX
import Derived.Test.YtppcpidlnpencaaXidB
import Derived.Test.YtppcpidlnpencaaReg
import Derived.StillTailTactics
namespace Go.Proofs.Ytppcpidlnpencaa
open Go.RowKit
set_option linter.unusedVariables false
theorem At.rangeM {w : World} {g : Nat} {t : TypeId} {cs ds : List Value} (h : At w g t cs) (o : Nat) (hd : (cs.drop o).take ds.length = ds) : w.rangeAt g o ds := fun j v hv => by
  obtain ⟨h1, h2⟩ := List.getElem?_eq_some_iff.1 hv
  have h3 : ((cs.drop o).take ds.length)[j]? = some v := by rw [hd]; exact hv
  rw [List.getElem?_take_of_lt h1, List.getElem?_drop] at h3
  obtain ⟨h4, h5⟩ := List.getElem?_eq_some_iff.1 h3
  rw [h.cell (o + j) h4, h5]
set_option maxRecDepth 100000 in
theorem sorter_len (A : Option Addr) (n c : Nat) (w : World) : Calls Try.prog 98 #[.slice A n c] w fun e w' => e = .returned (.int .i64 (n : Int)) ∧ w' = w := by
  go_enter Try.func98, Try.ntmps98
  go_wp2
  go_ret
  exact ⟨rfl, rfl⟩
theorem cell_lt {w : World} {b o : Nat} {v : Value} (h : w.cell? ⟨b, o, none⟩ = some v) : b < w.heap.size := by
  rcases Nat.lt_or_ge b w.heap.size with hlt | hge
  · exact hlt
  · simp [World.cell?, Array.getElem?_eq_none hge] at h
theorem rangeAt_below {w w' : World} {b o B : Nat} {cs : List Value} (h : w.rangeAt b o cs) (hb : Below B w w') (hB : b < B) : w'.rangeAt b o cs := fun j v hv => (hb.cell (p := ⟨b, o + j, none⟩) hB).trans (h j v hv)
def LsC (g n c i j : Nat) (X Y : Value) (r : Int) (k : Nat) (x : Value) (w : World) : Prop :=
  match k with
  | 0 => x = .slice (some ⟨g, 0, none⟩) n c
  | 1 => x = .int .i64 (i : Int)
  | 2 => x = .pointer (some ⟨g, i * 12, none⟩)
  | 3 => x = X
  | 4 => x = .slice (some ⟨g, 0, none⟩) n c
  | 5 => x = .int .i64 (j : Int)
  | 6 => x = .pointer (some ⟨g, j * 12, none⟩)
  | 7 => x = Y
  | 8 => x = .int .i64 r
  | 9 => x = .bool (decide (r < 0))
  | 10 => x = .bool (decide (r < 0))
  | _ => True
theorem LsC.any {g n c i j : Nat} {X Y : Value} {r : Int} {k : Nat} {x : Value} {w w' : World} (h : LsC g n c i j X Y r k x w) : LsC g n c i j X Y r k x w' := h
set_option maxRecDepth 100000 in
theorem sorter_less (g n c i j : Nat) (hi : i < n) (hj : j < n) (xs ys : List UInt8) (hx : xs.length = 12) (hy : ys.length = 12) (w : World) (rx : w.rangeAt g (i * 12) (xs.map B8)) (ry : w.rangeAt g (j * 12) (ys.map B8)) :
    Calls Try.prog 99 #[.slice (some ⟨g, 0, none⟩) n c, .int .i64 (i : Int), .int .i64 (j : Int)] w fun e w' => e = .returned (.bool (decide (cmpB xs ys < 0))) ∧ Below w.heap.size w w' := by
  have CX := Lib.hid (idCompare xs ys hx hy)
  obtain ⟨r, hr⟩ : ∃ r, r = cmpB xs ys := ⟨_, rfl⟩
  rw [← hr] at CX ⊢
  clear hr
  have HSi := Lib.hid (sizeI_of xs hx)
  have LTg := Lib.hid (show g < w.heap.size by have h := rx 0 (B8 (xs.getD 0 0)) (by simp [List.getD, show 0 < xs.length by omega]); exact cell_lt h)
  have HSj := Lib.hid (sizeI_of ys hy)
  have hu := Lib.hid Try.underlying54
  have qi : (i : Int) < (n : Int) := by omega
  have qj : (j : Int) < (n : Int) := by omega
  have RX := Lib.hid rx
  have RY := Lib.hid ry
  clear rx ry
  go_enter Try.func99, Try.ntmps99
  go_wp2_with fail
  refine wp_region_inv (RI (fun v => ⟨#[Value.slice (some { block := g, off := 0 }) n c, Value.int IntKind.i64 (i : Int), Value.int IntKind.i64 (j : Int), undef,
          undef, undef, v 10, v 0, v 1, v 2, v 3, v 4, v 5, v 6, v 7, v 8, v 9], []⟩) (LsC g n c i j (.agg (xs.map B8).toArray) (.agg (ys.map B8).toArray) r) (fun u => u.rangeAt g (i * 12) (xs.map B8) ∧ u.rangeAt g (j * 12) (ys.map B8) ∧ Below w.heap.size w u)) [0, 1, 2, 3, 4, 5, 6, 7, 8, 9, 10] (by kernel_rfl) (by kernel_rfl) (by kernel_rfl) ?_ ?_ ?_
  · exact ⟨fun k => if k = 10 then .bool false else undef, rfl, (fun j hj => by rw [getD_replicate_false] at hj; cases hj), RX.out, RY.out, below_drewN (Below.refl _ _) 1⟩
  · refine AllI.cons ?_ (AllI.cons ?_ (AllI.cons ?_ (AllI.cons ?_ (AllI.cons ?_ (AllI.cons ?_ (AllI.cons ?_ (AllI.cons ?_ (AllI.cons ?_ (AllI.cons ?_ (AllI.cons ?_ AllI.nil))))))))))
    · refine stepRI [] rfl rfl (by kernel_rfl) fun v u hv hS K hK => ?_
      go_simp
      exact hK.out _ _ _ (by simp [upd]; try rfl) (fun _ _ _ h => h) rfl hS
    · refine stepRI [] rfl rfl (by kernel_rfl) fun v u hv hS K hK => ?_
      go_simp
      exact hK.out _ _ _ (by simp [upd]; try rfl) (fun _ _ _ h => h) rfl hS
    · refine stepRI [0, 1] rfl rfl (by kernel_rfl) fun v u hv hS K hK => ?_
      have e0 := hv 0 rfl
      simp only [LsC] at e0
      have e1 := hv 1 rfl
      simp only [LsC] at e1
      go_simp
      exact hK.out _ _ _ (by simp [upd, e0, e1]; try rfl) (fun _ _ _ h => h) rfl hS
    · refine stepRI [2] rfl rfl (by kernel_rfl) fun v u hv hS K hK => ?_
      have e2 := hv 2 rfl
      simp only [LsC] at e2
      have hu' := hu.out
      refine wp_load_mid _ _ rfl g (i * 12) (by simp [Act.eval, e2]) _ _ hS.1 hu' rfl HSi.out ?_
      exact hK.out _ _ _ rfl (fun _ _ _ h => h) rfl hS
    · refine stepRI [] rfl rfl (by kernel_rfl) fun v u hv hS K hK => ?_
      go_simp
      exact hK.out _ _ _ (by simp [upd]; try rfl) (fun _ _ _ h => h) rfl hS
    · refine stepRI [] rfl rfl (by kernel_rfl) fun v u hv hS K hK => ?_
      go_simp
      exact hK.out _ _ _ (by simp [upd]; try rfl) (fun _ _ _ h => h) rfl hS
    · refine stepRI [4, 5] rfl rfl (by kernel_rfl) fun v u hv hS K hK => ?_
      have e4 := hv 4 rfl
      simp only [LsC] at e4
      have e5 := hv 5 rfl
      simp only [LsC] at e5
      go_simp
      exact hK.out _ _ _ (by simp [upd, e4, e5]; try rfl) (fun _ _ _ h => h) rfl hS
    · refine stepRI [6] rfl rfl (by kernel_rfl) fun v u hv hS K hK => ?_
      have e6 := hv 6 rfl
      simp only [LsC] at e6
      have hu' := hu.out
      refine wp_load_mid _ _ rfl g (j * 12) (by simp [Act.eval, e6]) _ _ hS.2.1 hu' rfl HSj.out ?_
      exact hK.out _ _ _ rfl (fun _ _ _ h => h) rfl hS
    · refine stepRI [3, 7] rfl rfl (by kernel_rfl) fun v u hv hS K hK => ?_
      have e3 := hv 3 rfl
      have e7 := hv 7 rfl
      simp only [LsC] at e3 e7
      have HS := Lib.hid hS
      clear hS
      go_simp
      go_at_call 42
      refine (CX.out u).mono ?_
      rintro e u' ⟨rfl, b2⟩
      go_wp2_with fail
      exact hK.out _ _ _ (by simp [upd, e3, e7]) (fun _ _ _ h => h) rfl ⟨rangeAt_below HS.out.1 b2 (Nat.lt_of_lt_of_le LTg.out HS.out.2.2.size), rangeAt_below HS.out.2.1 b2 (Nat.lt_of_lt_of_le LTg.out HS.out.2.2.size), HS.out.2.2.trans (b2.mono HS.out.2.2.size)⟩
    · refine stepRI [8] rfl rfl (by kernel_rfl) fun v u hv hS K hK => ?_
      have e8 := hv 8 rfl
      simp only [LsC] at e8
      go_simp
      exact hK.out _ _ _ (by simp [upd, e8]; try rfl) (fun _ _ _ h => h) rfl hS
    · refine stepRI [9] rfl rfl (by kernel_rfl) fun v u hv hS K hK => ?_
      have e9 := hv 9 rfl
      simp only [LsC] at e9
      go_simp
      exact hK.out _ _ _ (by simp [upd, e9]; try rfl) (fun _ _ _ h => h) rfl hS
  · intro li a u hall hI
    obtain ⟨v, rfl, hv, hS⟩ := hI
    have e10 := hv 10 (hall 10 (by decide))
    simp only [LsC] at e10
    have HS := Lib.hid hS
    clear hv hall hS
    go_wp2
    go_ret
    exact ⟨by simp [e10], HS.out.2.2⟩
end Go.Proofs.Ytppcpidlnpencaa
