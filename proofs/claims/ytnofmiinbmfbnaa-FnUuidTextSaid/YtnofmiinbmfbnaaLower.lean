/-
  spec.Lower and spec.Upper.
-/
import Derived.Test.YtnofmiinbmfbnaaUuidRead
namespace Go.Proofs.Ytnofmiinbmfbnaa
open Go.RowKit
set_option linter.unusedVariables false
def lowC (c : UInt8) : UInt8 := if 65 ≤ c.toNat ∧ c.toNat ≤ 90 then UInt8.ofNat (c.toNat + 32) else c
def upC (c : UInt8) : UInt8 := if 97 ≤ c.toNat ∧ c.toNat ≤ 122 then UInt8.ofNat (c.toNat - 32) else c
/-- The bytes l lie from the start of block g on, and may be written. -/
def FreeL (w : World) (g : Nat) (l : List UInt8) : Prop := ∀ j (h : j < l.length), w.cell? ⟨g, j, none⟩ = some (B8 l[j]) ∧ w.frozen? ⟨g, j, none⟩ = false
theorem FreeL.set {w : World} {g : Nat} {l : List UInt8} (h : FreeL w g l) (k : Nat) (hk : k < l.length) (x : UInt8) : FreeL (w.setCell ⟨g, k, none⟩ (B8 x)) g (l.set k x) := fun j hj => by
  have hj' : j < l.length := by simpa using hj
  refine ⟨?_, by rw [World.frozen?_setCell]; exact (h j hj').2⟩
  by_cases e : k = j
  · subst e
    rw [World.cell?_setCell_same _ _ _ (h k hj').1]
    simp
  · rw [World.cell?_setCell_other _ _ _ _ (by intro e'; injection e' with e1 e2; exact e e2), (h j hj').1]
    simp [e]
theorem FreeL.byt {w : World} {g : Nat} {l : List UInt8} (h : FreeL w g l) (hlt : g < w.heap.size) : Byt w (some ⟨g, 0, none⟩) l := fun _ => ⟨g, 0, rfl, hlt, fun j hj => by rw [Nat.zero_add]; exact (h j hj).1⟩
theorem run_toF {P : Program} (w : World) (src dst e : TypeId) (s : ByteArray) {u : TypeDesc} (hs : P.underlying src = some u) (hd : P.underlying dst = some (.slice e)) (he : P.underlying e = some (.int .u8)) :
    ∃ c w', (convert src dst (.string s)).run P w = .ok (.slice (some ⟨w.heap.size, 0, none⟩) s.data.toList.length c) w' ∧ FreeL w' w.heap.size s.data.toList ∧ w'.heap.size = w.heap.size + 1 ∧ Below w.heap.size w w' := by
  obtain ⟨c, w', h1, h2, h3, h4, h5⟩ := run_toB (P := P) w src dst e s hs hd he
  have h0 := Lib.run_convert_string_bytes (P := P) w src dst e s hs hd he
  rw [h1] at h0
  injection h0 with h0 h0'
  subst h0'
  refine ⟨c, _, h1, fun j hj => ⟨?_, ?_⟩, h4, h5⟩
  · have e : s.data.toList.getD j 0 = s.data.toList[j] := by simp only [List.getD, List.getElem?_eq_getElem hj, Option.getD_some]
    rw [h3 j hj, e]
    rfl
  · have hb := Lib.bytesWorld_at_new w e s
    have hs' : j < (Lib.bytesCells w e s).size := by
      unfold Lib.bytesCells
      simp
      have : j < s.data.toList.length := hj
      simp at this
      omega
    unfold World.frozen?
    rw [hb]
    simp
    omega
theorem wpList_toF {P : Program} {w : World} {ops : Array Oper} {rest : List Oper} {o : Oper} {a : Act} {Q : Exit → Act → World → Prop} (hgd : o.guard = none) (sT dT : TypeId) (x : Operand) (ho : o.op = .convert sT dT x) (e : TypeId) {u : TypeDesc}
    (hs : P.underlying sT = some u) (hd : P.underlying dT = some (.slice e)) (he : P.underlying e = some (.int .u8)) (s : ByteArray) (n : Nat) (hn : s.data.toList.length = n) (hx : a.eval x = .string s)
    (h : ∀ c w', FreeL w' w.heap.size s.data.toList → w'.heap.size = w.heap.size + 1 → Below w.heap.size w w' → wpList P ops Q rest (a.put o.dst (.slice (some ⟨w.heap.size, 0, none⟩) n c)) w') : wpList P ops Q (o :: rest) a w := by
  subst hn
  refine wpList_plain hgd fun K hK => ?_
  obtain ⟨c, w', hrun, h1, h2, h3⟩ := run_toF (P := P) w sT dT e s hs hd he
  unfold Oper.wp execOp
  simp only [ho, hx, Sem.run_bind, hrun, Result.andThen_ok, Sem.run_pure]
  exact hK _ _ (h c w' h1 h2 h3)
def mapK (f : UInt8 → UInt8) (l : List UInt8) (k : Nat) : List UInt8 := (l.take k).map f ++ l.drop k
theorem mapK_length (f : UInt8 → UInt8) (l : List UInt8) (k : Nat) : (mapK f l k).length = l.length := by simp [mapK]; omega
theorem mapK_zero (f : UInt8 → UInt8) (l : List UInt8) : mapK f l 0 = l := by simp [mapK]
theorem mapK_all (f : UInt8 → UInt8) (l : List UInt8) : mapK f l l.length = l.map f := by simp [mapK]
theorem mapK_get (f : UInt8 → UInt8) (l : List UInt8) (k : Nat) (h : k < l.length) : (mapK f l k)[k]'(by rw [mapK_length]; exact h) = l[k] := by
  unfold mapK
  rw [List.getElem_append_right (by simp; omega)]
  simp [Nat.min_eq_left (Nat.le_of_lt h)]
theorem mapK_step (f : UInt8 → UInt8) (l : List UInt8) (k : Nat) (h : k < l.length) : (mapK f l k).set k (f l[k]) = mapK f l (k + 1) := by
  unfold mapK
  rw [List.set_append_right _ _ (by simp; omega), List.take_succ_eq_append_getElem h, List.map_append, List.drop_eq_getElem_cons h, List.length_map, List.length_take, Nat.min_eq_left (Nat.le_of_lt h), Nat.sub_self, List.set_cons_zero]
  simp
theorem mapK_same (f : UInt8 → UInt8) (l : List UInt8) (k : Nat) (h : k < l.length) (hf : f l[k] = l[k]) : mapK f l k = mapK f l (k + 1) := by
  rw [← mapK_step f l k h, hf]
  have := mapK_get f l k h
  conv => rhs; rw [← this]
  simp
theorem map_str (f : UInt8 → UInt8) (s : ByteArray) : (⟨(s.data.toList.map f).toArray⟩ : ByteArray).data.toList = s.data.toList.map f := rfl
theorem map_str_size (f : UInt8 → UInt8) (s : ByteArray) : (⟨(s.data.toList.map f).toArray⟩ : ByteArray).size = s.size := by
  show (s.data.toList.map f).toArray.size = s.size
  simp
set_option maxRecDepth 100000 in
set_option maxHeartbeats 1000000 in
theorem lower_any (s : ByteArray) (hp : 0 < s.size) (hm : s.size ≤ 100000) (w : World) :
    Calls Try.prog 38 #[.string s] w fun e w' => e = .returned (.string ⟨(s.data.toList.map lowC).toArray⟩) ∧ Below w.heap.size w w' := by
  obtain ⟨l, hl⟩ : ∃ l, l = s.data.toList := ⟨_, rfl⟩
  obtain ⟨n, hn⟩ : ∃ n, n = l.length := ⟨_, rfl⟩
  have hns : s.size = n := by rw [hn, hl]; simp
  rw [hns] at hp hm
  have HL := Lib.hid hl
  have HN := Lib.hid hn
  have HP := Lib.hid hp
  have ni : (n : Int) ≤ 100000 := by omega
  rw [← hl]
  clear hl hn hns hp hm
  go_enter Try.func38, Try.ntmps38
  go_wp2_with (refine wpList_toF rfl 9 27 (.tmp 6) rfl 5 Try.underlying9 Try.underlying27 Try.underlying5 s n (by rw [← HL.out, HN.out]) (by rfl) ?_)
  intro c w1 hc hs hb
  rw [← HL.out] at hc
  obtain ⟨g, hg⟩ : ∃ g, g = w.heap.size := ⟨_, rfl⟩
  rw [← hg] at hc hs ⊢
  have HC := Lib.hid hc
  have HS := Lib.hid (show g < w1.heap.size by omega)
  have HB := Lib.hid hb
  have HG := Lib.hid hg
  clear hc hs hb hg
  go_wp2
  go_loopw [10] (fun i wr => ∃ k : Nat, k ≤ n ∧ i = .int .i64 k ∧ FreeL wr g (mapK lowC l k) ∧ g < wr.heap.size ∧ Below w.heap.size w wr) (fun i _ => n - (intOf i).toNat)
  case atStart => exact ⟨0, by omega, rfl, by rw [mapK_zero]; exact HC.out, HS.out, HB.out⟩
  case round =>
    obtain ⟨k, hk, rfl, hf, hgl, hbel⟩ := hrel
    by_cases hlt : k < n
    · have lk : k < l.length := by rw [← HN.out]; exact hlt
      obtain ⟨x, hx⟩ : ∃ x, x = l[k] := ⟨_, rfl⟩
      obtain ⟨c1, f1⟩ := hf k (by rw [mapK_length]; exact lk)
      rw [mapK_get lowC l k lk, ← hx] at c1
      have cx : wr.cell? ⟨g, k, none⟩ = some (.int .u8 (x.toNat : Int)) := c1
      have xb := x.toNat_lt
      have q0 : (0 : Int) ≤ (k : Int) := by omega
      have q1 : (k : Int) < (n : Int) := by omega
      have HF := Lib.hid hf
      have HGL := Lib.hid hgl
      have HBe := Lib.hid hbel
      have LK := Lib.hid lk
      have HX := Lib.hid hx
      have xi : (x.toNat : Int) < 256 := by omega
      by_cases h1 : 65 ≤ x.toNat ∧ x.toNat ≤ 90
      · have t1 : (65 : Int) ≤ (x.toNat : Int) := by omega
        have t2 : (x.toNat : Int) ≤ 90 := by omega
        have EV := Lib.hid (show B8 (lowC x) = .int .u8 ((x.toNat : Int) + 32) by
          unfold lowC B8
          rw [if_pos h1, UInt8.toNat_ofNat']
          congr 1
          omega)
        clear h1 hf hgl hbel hx c1 xb
        go_wp2
        go_roundw
        case rel =>
          refine ⟨k + 1, by omega, by go_num, ?_, by simpa [World.setCell] using HGL.out, ?_⟩
          · rw [← mapK_step lowC l k LK.out, ← HX.out]
            have := HF.out.set k (by rw [mapK_length]; exact LK.out) (lowC x)
            rw [EV.out] at this
            exact this
          · exact HBe.out.setCell (by rw [← HG.out]; exact Nat.le_refl _) _
        case measure => simp [intOf]; omega
      · have SM := Lib.hid (mapK_same lowC l k lk (by rw [← hx]; unfold lowC; rw [if_neg h1]))
        rcases Nat.lt_or_ge x.toNat 65 with h2 | h2
        · have t1 : decide ((65 : Int) ≤ (x.toNat : Int)) = false := decide_eq_false (by omega)
          clear h1 h2 hf hgl hbel hx c1 xb
          go_wp2
          go_roundw
          case rel => exact ⟨k + 1, by omega, by go_num, by rw [← SM.out]; exact HF.out, HGL.out, HBe.out⟩
          case measure => simp [intOf]; omega
        · have t1 : (65 : Int) ≤ (x.toNat : Int) := by omega
          have t2 : decide ((x.toNat : Int) ≤ 90) = false := decide_eq_false (by omega)
          clear h1 h2 hf hgl hbel hx c1 xb
          go_wp2
          go_roundw
          case rel => exact ⟨k + 1, by omega, by go_num, by rw [← SM.out]; exact HF.out, HGL.out, HBe.out⟩
          case measure => simp [intOf]; omega
    · obtain rfl : k = n := by omega
      have hy := hf.byt hgl
      rw [HN.out, mapK_all] at hy
      have HY := Lib.hid hy
      have HBe := Lib.hid hbel
      have LL := Lib.hid (show (l.map lowC).length = k by rw [List.length_map, HN.out])
      clear hy hbel hf hgl hlt hk
      go_wp2_with (refine wpList_strB rfl 27 9 (.tmp 27) rfl 5 Try.underlying27 Try.underlying5 Try.underlying9 (some ⟨g, 0, none⟩) k c (l.map lowC) (by rfl) HY.out LL.out HP.out ?_)
      go_ret
      exact ⟨rfl, HBe.out⟩
set_option maxRecDepth 100000 in
set_option maxHeartbeats 1000000 in
theorem upper_any (s : ByteArray) (hp : 0 < s.size) (hm : s.size ≤ 100000) (w : World) :
    Calls Try.prog 23 #[.string s] w fun e w' => e = .returned (.string ⟨(s.data.toList.map upC).toArray⟩) ∧ Below w.heap.size w w' := by
  obtain ⟨l, hl⟩ : ∃ l, l = s.data.toList := ⟨_, rfl⟩
  obtain ⟨n, hn⟩ : ∃ n, n = l.length := ⟨_, rfl⟩
  have hns : s.size = n := by rw [hn, hl]; simp
  rw [hns] at hp hm
  have HL := Lib.hid hl
  have HN := Lib.hid hn
  have HP := Lib.hid hp
  have ni : (n : Int) ≤ 100000 := by omega
  rw [← hl]
  clear hl hn hns hp hm
  go_enter Try.func23, Try.ntmps23
  go_wp2_with (refine wpList_toF rfl 9 27 (.tmp 6) rfl 5 Try.underlying9 Try.underlying27 Try.underlying5 s n (by rw [← HL.out, HN.out]) (by rfl) ?_)
  intro c w1 hc hs hb
  rw [← HL.out] at hc
  obtain ⟨g, hg⟩ : ∃ g, g = w.heap.size := ⟨_, rfl⟩
  rw [← hg] at hc hs ⊢
  have HC := Lib.hid hc
  have HS := Lib.hid (show g < w1.heap.size by omega)
  have HB := Lib.hid hb
  have HG := Lib.hid hg
  clear hc hs hb hg
  go_wp2
  go_loopw [10] (fun i wr => ∃ k : Nat, k ≤ n ∧ i = .int .i64 k ∧ FreeL wr g (mapK upC l k) ∧ g < wr.heap.size ∧ Below w.heap.size w wr) (fun i _ => n - (intOf i).toNat)
  case atStart => exact ⟨0, by omega, rfl, by rw [mapK_zero]; exact HC.out, HS.out, HB.out⟩
  case round =>
    obtain ⟨k, hk, rfl, hf, hgl, hbel⟩ := hrel
    by_cases hlt : k < n
    · have lk : k < l.length := by rw [← HN.out]; exact hlt
      obtain ⟨x, hx⟩ : ∃ x, x = l[k] := ⟨_, rfl⟩
      obtain ⟨c1, f1⟩ := hf k (by rw [mapK_length]; exact lk)
      rw [mapK_get upC l k lk, ← hx] at c1
      have cx : wr.cell? ⟨g, k, none⟩ = some (.int .u8 (x.toNat : Int)) := c1
      have xb := x.toNat_lt
      have q0 : (0 : Int) ≤ (k : Int) := by omega
      have q1 : (k : Int) < (n : Int) := by omega
      have HF := Lib.hid hf
      have HGL := Lib.hid hgl
      have HBe := Lib.hid hbel
      have LK := Lib.hid lk
      have HX := Lib.hid hx
      have xi : (x.toNat : Int) < 256 := by omega
      by_cases h1 : 97 ≤ x.toNat ∧ x.toNat ≤ 122
      · have t1 : (97 : Int) ≤ (x.toNat : Int) := by omega
        have t2 : (x.toNat : Int) ≤ 122 := by omega
        have EV := Lib.hid (show B8 (upC x) = .int .u8 ((x.toNat : Int) - 32) by
          unfold upC B8
          rw [if_pos h1, UInt8.toNat_ofNat']
          congr 1
          omega)
        clear h1 hf hgl hbel hx c1 xb
        go_wp2
        go_roundw
        case rel =>
          refine ⟨k + 1, by omega, by go_num, ?_, by simpa [World.setCell] using HGL.out, ?_⟩
          · rw [← mapK_step upC l k LK.out, ← HX.out]
            have := HF.out.set k (by rw [mapK_length]; exact LK.out) (upC x)
            rw [EV.out] at this
            exact this
          · exact HBe.out.setCell (by rw [← HG.out]; exact Nat.le_refl _) _
        case measure => simp [intOf]; omega
      · have SM := Lib.hid (mapK_same upC l k lk (by rw [← hx]; unfold upC; rw [if_neg h1]))
        rcases Nat.lt_or_ge x.toNat 97 with h2 | h2
        · have t1 : decide ((97 : Int) ≤ (x.toNat : Int)) = false := decide_eq_false (by omega)
          clear h1 h2 hf hgl hbel hx c1 xb
          go_wp2
          go_roundw
          case rel => exact ⟨k + 1, by omega, by go_num, by rw [← SM.out]; exact HF.out, HGL.out, HBe.out⟩
          case measure => simp [intOf]; omega
        · have t1 : (97 : Int) ≤ (x.toNat : Int) := by omega
          have t2 : decide ((x.toNat : Int) ≤ 122) = false := decide_eq_false (by omega)
          clear h1 h2 hf hgl hbel hx c1 xb
          go_wp2
          go_roundw
          case rel => exact ⟨k + 1, by omega, by go_num, by rw [← SM.out]; exact HF.out, HGL.out, HBe.out⟩
          case measure => simp [intOf]; omega
    · obtain rfl : k = n := by omega
      have hy := hf.byt hgl
      rw [HN.out, mapK_all] at hy
      have HY := Lib.hid hy
      have HBe := Lib.hid hbel
      have LL := Lib.hid (show (l.map upC).length = k by rw [List.length_map, HN.out])
      clear hy hbel hf hgl hlt hk
      go_wp2_with (refine wpList_strB rfl 27 9 (.tmp 27) rfl 5 Try.underlying27 Try.underlying5 Try.underlying9 (some ⟨g, 0, none⟩) k c (l.map upC) (by rfl) HY.out LL.out HP.out ?_)
      go_ret
      exact ⟨rfl, HBe.out⟩
end Go.Proofs.Ytnofmiinbmfbnaa
