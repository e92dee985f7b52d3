/-
  The sorter's Swap.
-/
import Derived.Test.YtppcpidlnpencaaSort1
import Derived.Test.YtppcpidlnpencaaReg4
namespace Go.Proofs.Ytppcpidlnpencaa
open Go.RowKit
set_option linter.unusedVariables false
theorem splice_set {α : Type} (v : α) (r : List α) : ∀ (L : List α) (o : Nat), o < L.length → splice (L.set o v) (o + 1) r = splice L o (v :: r)
  | [], o, h => by simp at h
  | a :: L, 0, h => by simp [splice, Nat.add_comm]
  | a :: L, o + 1, h => by
    have := splice_set v r L o (by simpa using h)
    unfold splice at this ⊢
    simp only [List.set_cons_succ, List.take_succ_cons, List.cons_append, List.cons.injEq, true_and]
    rw [show o + 1 + 1 + r.length = (o + 1 + r.length) + 1 by omega, show o + 1 + (v :: r).length = (o + (v :: r).length) + 1 by omega, List.drop_succ_cons, List.drop_succ_cons]
    exact this
theorem PutB.refl {w : World} {g : Nat} {t : TypeId} {cs : List Value} (h : At w g t cs) : PutB w w g t cs := ⟨⟨rfl, rfl, rfl, Nat.le_refl _, fun _ _ _ => rfl⟩, rfl, h⟩
theorem PutB.setCells (g : Nat) (t : TypeId) : ∀ (vs : List Value) (o : Nat) (old : List Value) (w : World), At w g t old → o + vs.length ≤ old.length → PutB w (w.setCells g o vs) g t (splice old o vs)
  | [], o, old, w, h, hl => by
    have : splice old o [] = old := by simp [splice]
    rw [this]
    exact PutB.refl h
  | v :: r, o, old, w, h, hl => by
    have hl' : o + (r.length + 1) ≤ old.length := by simpa using hl
    have h1 := PutB.setCell h o v
    have h2 := PutB.setCells g t r (o + 1) (old.set o v) _ h1.at_ (by simp; omega)
    rw [splice_set v r old o (by omega)] at h2
    exact h1.trans h2
theorem At.there {w : World} {g : Nat} {t : TypeId} {cs : List Value} (h : At w g t cs) (o n : Nat) (hl : o + n ≤ cs.length) : w.there g o n := fun j hj => by
  refine ⟨?_, h.frozen (o + j)⟩
  rw [h.cell (o + j) (by omega)]
  rfl
def SwC (g n c i j : Nat) (X Y : Value) (k : Nat) (x : Value) : Prop :=
  match k with
  | 0 => x = .slice (some ⟨g, 0, none⟩) n c
  | 1 => x = .int .i64 (i : Int)
  | 2 => x = .slice (some ⟨g, 0, none⟩) n c
  | 3 => x = .int .i64 (j : Int)
  | 4 => x = .slice (some ⟨g, 0, none⟩) n c
  | 5 => x = .int .i64 (j : Int)
  | 6 => x = .pointer (some ⟨g, j * 12, none⟩)
  | 7 => x = Y
  | 8 => x = .slice (some ⟨g, 0, none⟩) n c
  | 9 => x = .int .i64 (i : Int)
  | 10 => x = .pointer (some ⟨g, i * 12, none⟩)
  | 11 => x = X
  | 12 => x = .pointer (some ⟨g, i * 12, none⟩)
  | 14 => x = .pointer (some ⟨g, j * 12, none⟩)
  | _ => True
def SwS (cs : List Value) (oi oj : Nat) (X Y : List Value) (d1 d2 : Bool) : List Value := if d1 = true then (if d2 = true then splice (splice cs oi Y) oj X else splice cs oi Y) else cs
set_option maxRecDepth 100000 in
set_option maxHeartbeats 1000000 in
theorem sorter_swap (g n c i j : Nat) (hi : i < n) (hj : j < n) (cs : List Value) (xs ys : List UInt8) (hx : xs.length = 12) (hy : ys.length = 12) (w : World) (hg : At w g 54 cs) (hl : n * 12 ≤ cs.length) (rx : (cs.drop (i * 12)).take 12 = xs.map B8) (ry : (cs.drop (j * 12)).take 12 = ys.map B8) :
    Calls Try.prog 100 #[.slice (some ⟨g, 0, none⟩) n c, .int .i64 (i : Int), .int .i64 (j : Int)] w fun e w' => e = .returned (.tuple #[]) ∧ PutB w w' g 54 (splice (splice cs (i * 12) (ys.map B8)) (j * 12) (xs.map B8)) := by
  have HSi := Lib.hid (sizeI_of xs hx)
  have HSj := Lib.hid (sizeI_of ys hy)
  have hu := Lib.hid Try.underlying54
  have qi : (i : Int) < (n : Int) := by omega
  have qj : (j : Int) < (n : Int) := by omega
  have QI := Lib.hid (show i * 12 + 12 ≤ cs.length by omega)
  have QJ := Lib.hid (show j * 12 + 12 ≤ cs.length by omega)
  have RX := Lib.hid (show (cs.drop (i * 12)).take (xs.map B8).length = xs.map B8 by rw [List.length_map, hx]; exact rx)
  have RY := Lib.hid (show (cs.drop (j * 12)).take (ys.map B8).length = ys.map B8 by rw [List.length_map, hy]; exact ry)
  have LX := Lib.hid (show (xs.map B8).length = 12 by rw [List.length_map, hx])
  have LY := Lib.hid (show (ys.map B8).length = 12 by rw [List.length_map, hy])
  have OX := Lib.hid (B8_one xs)
  have OY := Lib.hid (B8_one ys)
  obtain ⟨X, hX⟩ : ∃ X, X = xs.map B8 := ⟨_, rfl⟩
  obtain ⟨Y, hY⟩ : ∃ Y, Y = ys.map B8 := ⟨_, rfl⟩
  rw [← hX] at HSi RX LX OX ⊢
  rw [← hY] at HSj RY LY OY ⊢
  have HG := Lib.hid hg
  clear hg hl hX hY rx ry hx hy
  go_enter Try.func100, Try.ntmps100
  go_wp2_with fail
  refine wp_region_rw (fun v => ⟨#[Value.slice (some { block := g, off := 0 }) n c, Value.int IntKind.i64 (i : Int), Value.int IntKind.i64 (j : Int), undef,
          undef, undef, v 0, v 1, v 2, v 3, v 4, v 5, v 6, v 7, v 8, v 9, v 10, v 11, v 12, v 14], []⟩) (SwC g n c i j (.agg X.toArray) (.agg Y.toArray)) (fun d1 d2 u => PutB w u g 54 (SwS cs (i * 12) (j * 12) X Y d1 d2)) 13 15 (fun _ => undef) [0, 1, 2, 3, 4, 5, 6, 7, 8, 9, 10, 11, 12, 13, 14, 15] (by kernel_rfl) (by kernel_rfl) (by kernel_rfl) (of_decide_eq_true (by kernel_rfl)) (of_decide_eq_true (by kernel_rfl)) rfl ?_ ?_ ?_
  · exact (PutB.refl HG.out).drew
  · refine AllI.cons ?_ (AllI.cons ?_ (AllI.cons ?_ (AllI.cons ?_ (AllI.cons ?_ (AllI.cons ?_ (AllI.cons ?_ (AllI.cons ?_ (AllI.cons ?_ (AllI.cons ?_ (AllI.cons ?_ (AllI.cons ?_ (AllI.cons ?_ (AllI.cons ?_ (AllI.cons ?_ (AllI.cons ?_ AllI.nil)))))))))))))))
    · refine stepRW [] rfl rfl rfl rfl (by kernel_rfl) fun d1 d2 v u k1 k2 hv hS K hK => ?_
      clear k1 k2 hS
      go_simp
      exact hK.out _ _ (by simp [upd]; try rfl) rfl
    · refine stepRW [] rfl rfl rfl rfl (by kernel_rfl) fun d1 d2 v u k1 k2 hv hS K hK => ?_
      clear k1 k2 hS
      go_simp
      exact hK.out _ _ (by simp [upd]; try rfl) rfl
    · refine stepRW [] rfl rfl rfl rfl (by kernel_rfl) fun d1 d2 v u k1 k2 hv hS K hK => ?_
      clear k1 k2 hS
      go_simp
      exact hK.out _ _ (by simp [upd]; try rfl) rfl
    · refine stepRW [] rfl rfl rfl rfl (by kernel_rfl) fun d1 d2 v u k1 k2 hv hS K hK => ?_
      clear k1 k2 hS
      go_simp
      exact hK.out _ _ (by simp [upd]; try rfl) rfl
    · refine stepRW [] rfl rfl rfl rfl (by kernel_rfl) fun d1 d2 v u k1 k2 hv hS K hK => ?_
      clear k1 k2 hS
      go_simp
      exact hK.out _ _ (by simp [upd]; try rfl) rfl
    · refine stepRW [] rfl rfl rfl rfl (by kernel_rfl) fun d1 d2 v u k1 k2 hv hS K hK => ?_
      clear k1 k2 hS
      go_simp
      exact hK.out _ _ (by simp [upd]; try rfl) rfl
    · refine stepRW [4, 5] rfl rfl rfl rfl (by kernel_rfl) fun d1 d2 v u k1 k2 hv hS K hK => ?_
      have e4 := hv 4 rfl
      simp only [SwC] at e4
      have e5 := hv 5 rfl
      simp only [SwC] at e5
      clear k1 k2 hS
      go_simp
      exact hK.out _ _ (by simp [upd, e4, e5]; try rfl) rfl
    · refine stepRW [6] rfl rfl rfl rfl (by kernel_rfl) fun d1 d2 v u k1 k2 hv hS K hK => ?_
      have e6 := hv 6 rfl
      simp only [SwC] at e6
      obtain rfl := k1 (by kernel_rfl)
      have hu' := hu.out
      refine wp_load_mid _ _ rfl g (j * 12) (by simp [Act.eval, e6]) _ _ (At.rangeM (cs := cs) hS.at_ (j * 12) RY.out) hu' rfl HSj.out ?_
      exact hK.out _ _ rfl rfl
    · refine stepRW [] rfl rfl rfl rfl (by kernel_rfl) fun d1 d2 v u k1 k2 hv hS K hK => ?_
      clear k1 k2 hS
      go_simp
      exact hK.out _ _ (by simp [upd]; try rfl) rfl
    · refine stepRW [] rfl rfl rfl rfl (by kernel_rfl) fun d1 d2 v u k1 k2 hv hS K hK => ?_
      clear k1 k2 hS
      go_simp
      exact hK.out _ _ (by simp [upd]; try rfl) rfl
    · refine stepRW [8, 9] rfl rfl rfl rfl (by kernel_rfl) fun d1 d2 v u k1 k2 hv hS K hK => ?_
      have e8 := hv 8 rfl
      simp only [SwC] at e8
      have e9 := hv 9 rfl
      simp only [SwC] at e9
      clear k1 k2 hS
      go_simp
      exact hK.out _ _ (by simp [upd, e8, e9]; try rfl) rfl
    · refine stepRW [10] rfl rfl rfl rfl (by kernel_rfl) fun d1 d2 v u k1 k2 hv hS K hK => ?_
      have e10 := hv 10 rfl
      simp only [SwC] at e10
      obtain rfl := k1 (by kernel_rfl)
      have hu' := hu.out
      refine wp_load_mid _ _ rfl g (i * 12) (by simp [Act.eval, e10]) _ _ (At.rangeM (cs := cs) hS.at_ (i * 12) RX.out) hu' rfl HSi.out ?_
      exact hK.out _ _ rfl rfl
    · refine stepRW [0, 1] rfl rfl rfl rfl (by kernel_rfl) fun d1 d2 v u k1 k2 hv hS K hK => ?_
      have e0 := hv 0 rfl
      simp only [SwC] at e0
      have e1 := hv 1 rfl
      simp only [SwC] at e1
      clear k1 k2 hS
      go_simp
      exact hK.out _ _ (by simp [upd, e0, e1]; try rfl) rfl
    · refine stepRWc [7, 12] rfl rfl rfl (by kernel_rfl) (by kernel_rfl) fun v u hv hS K hK => ?_
      have e7 := hv 7 rfl
      have e12 := hv 12 rfl
      simp only [SwC] at e7 e12
      refine wp_store_mid _ _ _ rfl g (i * 12) Y.toArray (by simp [Act.eval, e12]) (by simp [Act.eval, e7]) (At.there hS.at_ _ _ (by have := LY.out; have := QI.out; show i * 12 + Y.length ≤ cs.length; omega)) HSj.out (all_oneCell_toArray OY.out) ?_
      exact hK.out _ undef _ rfl trivial (hS.trans (PutB.setCells g _ _ _ _ _ hS.at_ (by have := LY.out; have := QI.out; show i * 12 + Y.length ≤ cs.length; omega)))
    · refine stepRW [2, 3] rfl rfl rfl rfl (by kernel_rfl) fun d1 d2 v u k1 k2 hv hS K hK => ?_
      have e2 := hv 2 rfl
      simp only [SwC] at e2
      have e3 := hv 3 rfl
      simp only [SwC] at e3
      clear k1 k2 hS
      go_simp
      exact hK.out _ _ (by simp [upd, e2, e3]; try rfl) rfl
    · refine stepRWe [11, 14] rfl rfl rfl (by kernel_rfl) (by kernel_rfl) fun v u hv hS K hK => ?_
      have e11 := hv 11 rfl
      have e14 := hv 14 rfl
      simp only [SwC] at e11 e14
      refine wp_store_mid _ _ _ rfl g (j * 12) X.toArray (by simp [Act.eval, e14]) (by simp [Act.eval, e11]) (At.there hS.at_ _ _ (by have := LX.out; have := LY.out; have := QI.out; have := QJ.out; show j * 12 + X.length ≤ (splice cs (i * 12) Y).length; rw [length_splice _ _ _ (by omega)]; omega)) HSi.out (all_oneCell_toArray OX.out) ?_
      exact hK.out _ undef _ rfl trivial (hS.trans (PutB.setCells g _ _ _ _ _ hS.at_ (by have := LX.out; have := LY.out; have := QI.out; have := QJ.out; show j * 12 + X.length ≤ (splice cs (i * 12) Y).length; rw [length_splice _ _ _ (by omega)]; omega)))
  · intro v u hv hS
    have HS := Lib.hid hS
    clear hv hS
    go_end0
    exact ⟨rfl, HS.out⟩
end Go.Proofs.Ytppcpidlnpencaa
