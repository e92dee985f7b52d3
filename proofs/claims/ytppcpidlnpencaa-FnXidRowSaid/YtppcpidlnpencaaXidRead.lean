/-
  FromString of the package xid, and the thin package's XidRead.
-/
import Derived.Test.YtppcpidlnpencaaUnm
import Derived.Lib.ConvBytes
namespace Go.Proofs.Ytppcpidlnpencaa
open Go.RowKit
set_option linter.unusedVariables false
theorem run_toB {P : Program} (w : World) (src dst e : TypeId) (s : ByteArray) {u : TypeDesc} (hs : P.underlying src = some u) (hd : P.underlying dst = some (.slice e)) (he : P.underlying e = some (.int .u8)) :
    ∃ c w', (convert src dst (.string s)).run P w = .ok (.slice (some ⟨w.heap.size, 0, none⟩) s.size c) w' ∧ Cells12 w' w.heap.size 0 s.data.toList ∧ w'.heap.size = w.heap.size + 1 ∧ Below w.heap.size w w' := by
  refine ⟨_, _, Lib.run_convert_string_bytes w src dst e s hs hd he, fun i b hi => ?_, Lib.bytesWorld_size w e s, rfl, rfl, rfl, by rw [Lib.bytesWorld_size]; omega, fun k hk => Lib.bytesWorld_at_old w e s k hk⟩
  have hi' : i < s.size := by simpa using (List.getElem?_eq_some_iff.1 hi).1
  rw [Nat.zero_add, Lib.bytesWorld_cell w e s i hi']
  simp [List.getD, hi]
theorem wpList_toB {P : Program} {w : World} {ops : Array Oper} {rest : List Oper} {o : Oper} {a : Act} {Q : Exit → Act → World → Prop} (hgd : o.guard = none) (sT dT : TypeId) (x : Operand) (ho : o.op = .convert sT dT x) (e : TypeId) {u : TypeDesc}
    (hs : P.underlying sT = some u) (hd : P.underlying dT = some (.slice e)) (he : P.underlying e = some (.int .u8)) (s : ByteArray) (hx : a.eval x = .string s)
    (h : ∀ c w', Cells12 w' w.heap.size 0 s.data.toList → w'.heap.size = w.heap.size + 1 → Below w.heap.size w w' → wpList P ops Q rest (a.put o.dst (.slice (some ⟨w.heap.size, 0, none⟩) s.size c)) w') : wpList P ops Q (o :: rest) a w := by
  refine wpList_plain hgd fun K hK => ?_
  obtain ⟨c, w', hrun, h1, h2, h3⟩ := run_toB (P := P) w sT dT e s hs hd he
  unfold Oper.wp execOp
  simp only [ho, hx, Sem.run_bind, hrun, Result.andThen_ok, Sem.run_pure]
  exact hK _ _ (h c w' h1 h2 h3)
def FsPost (ok : Bool) (l : List UInt8) (w : World) (e : Ending) (w' : World) : Prop :=
  (ok = true → e = .returned (.tuple #[.agg ((readB l).map B8).toArray, .nilIface]) ∧ Below w.heap.size w w') ∧
  (ok = false → (∃ (T : TypeId) (x : Value) (ks : List Value), ks.length = 12 ∧ (∀ v ∈ ks, v.oneCell' = true) ∧ e = .returned (.tuple #[.agg ks.toArray, .iface T x])) ∧ Below w.heap.size w w')
theorem FsPost.yes {ok : Bool} {l : List UInt8} {w : World} {e : Ending} {w' : World} (h : ok = true) (h1 : e = .returned (.tuple #[.agg ((readB l).map B8).toArray, .nilIface])) (h2 : Below w.heap.size w w') : FsPost ok l w e w' :=
  ⟨fun _ => ⟨h1, h2⟩, (fun h' => by rw [h] at h'; cases h')⟩
theorem FsPost.no {ok : Bool} {l : List UInt8} {w : World} {e : Ending} {w' : World} (h : ok = false) (h1 : ∃ (T : TypeId) (x : Value) (ks : List Value), ks.length = 12 ∧ (∀ v ∈ ks, v.oneCell' = true) ∧ e = .returned (.tuple #[.agg ks.toArray, .iface T x])) (h2 : Below w.heap.size w w') : FsPost ok l w e w' :=
  ⟨(fun h' => by rw [h] at h'; cases h'), fun _ => ⟨h1, h2⟩⟩
theorem Cells12.byt {w : World} {h o : Nat} {bs : List UInt8} (c : Cells12 w h o bs) (hlt : h < w.heap.size) : Byt w (some ⟨h, o, none⟩) bs := fun _ =>
  ⟨h, o, rfl, hlt, fun j hj => c j _ (by simp [hj])⟩
set_option maxRecDepth 100000 in
set_option maxHeartbeats 1000000 in
theorem fromString_any (s : ByteArray) (w : World) :
    Calls Try.prog 33 #[.string s] w (FsPost (readOk s.data.toList) s.data.toList w) := by
  obtain ⟨ok, hok⟩ : ∃ ok, ok = readOk s.data.toList := ⟨_, rfl⟩
  obtain ⟨l, hl⟩ : ∃ l, l = s.data.toList := ⟨_, rfl⟩
  obtain ⟨n, hn⟩ : ∃ n, n = s.size := ⟨_, rfl⟩
  have hln : l.length = n := by rw [hl, hn]; simp
  rw [← hok, ← hl]
  rw [← hl] at hok
  have HOK := Lib.hid hok
  have HLE := Lib.hid hl
  have HNE := Lib.hid hn
  have HLN := Lib.hid hln
  obtain ⟨Z, hZ⟩ : ∃ Z, Z = z12.map B8 := ⟨_, rfl⟩
  have hz : ∀ w, (zeroValue 54).run Try.prog w = .ok (.agg Z.toArray) w := hZ ▸ Try.zeroI
  have bz : ∀ w, (Instr.build 54 #[]).run Try.prog w = .ok (.agg Z.toArray) w := hZ ▸ buildI
  have HZL := Lib.hid (show Z.length = 12 by simp [hZ, z12])
  have HZ1 := Lib.hid (show ∀ v ∈ Z, v.oneCell' = true from hZ ▸ B8_one z12)
  clear hok hl hn hln hZ
  by_cases h20 : n = 20
  · have H20 := Lib.hid h20
    clear h20
    go_enter Try.func33, Try.ntmps33
    go_wp2_with (refine wpList_var rfl 54 rfl (.agg Z.toArray) Z hz rfl ?_)
    intro w1 h1
    have H1 := Lib.hid h1
    clear h1 hz
    go_wp2_with (first | (refine wpList_build0 rfl 54 rfl (.agg Z.toArray) bz ?_) | (refine wpList_boxed rfl 54 (.tmp 6) rfl (.agg Z.toArray) Z (by rfl) rfl ?_))
    intro w2 h2
    have H2 := Lib.hid h2
    clear h2 bz
    go_wp2_with (refine wpList_toB rfl 9 22 (.tmp 9) rfl 5 Try.underlying9 Try.underlying22 Try.underlying5 s (by rfl) ?_)
    intro c w3 hc hs hb
    rw [← HLE.out] at hc
    rw [← HNE.out, H20.out]
    have HC := Lib.hid hc
    have HS := Lib.hid hs
    have HB := Lib.hid hb
    have A3 := Lib.hid (H2.out.at_.below hb H2.out.at_.lt)
    clear hc hs hb
    go_wp2_with fail
    refine (unm_all w1.heap.size Z HZL.out HZ1.out w2.heap.size 0 c l (by rw [HLN.out, H20.out]) w3 A3.out HC.out (by have := H2.out.size; omega) (by have := HS.out; omega)).mono ?_
    rw [← HOK.out]
    intro e w4 h4
    have BX : Hid (∀ w4, w3.grownBy w4 (some w1.heap.size) → At w4 w.heap.size 54 Z ∧ Below w.heap.size w w4) := Lib.hid fun w4 g4 => by
      have s1 := H1.out.size
      have s2 := H2.out.size
      have b3 : Below w.heap.size w w3 := (H2.out.below (H1.out.below (Below.refl _ _) (Nat.le_refl _)) (by omega)).trans (HB.out.mono (by omega))
      have a3 : At w3 w.heap.size 54 Z := (H2.out.keep H1.out.at_).below HB.out (by omega)
      exact ⟨a3.grown g4 (by simp; omega), b3.grown g4 b3.size (by simp; omega)⟩
    cases ok with
    | true =>
      obtain ⟨rfl, a4, g4⟩ := h4.1 rfl
      obtain ⟨z4, b4⟩ := BX.out _ g4
      have A4 := Lib.hid a4
      have Z4 := Lib.hid z4
      have B4 := Lib.hid b4
      have LR := Lib.hid (readB_length l (by rw [HLN.out, H20.out]))
      clear a4 z4 b4 h4 g4
      obtain ⟨R, hR⟩ : ∃ R, R = readB l := ⟨_, rfl⟩
      rw [← hR] at A4 LR
      have HR := Lib.hid hR
      have HBS := Lib.hid (sizeI_of R LR.out)
      clear hR
      go_wp2_with (first
        | (refine wpList_get rfl 54 (.tmp 13) rfl w1.heap.size (by rfl) 54 (R.map B8) _ A4.out Try.underlying54 rfl HBS.out ?_)
        | (refine wpList_put rfl 54 (.tmp 2) (.tmp 14) rfl w.heap.size (R.map B8) (by rfl) (by rfl) 54 Z Z4.out HBS.out (by rw [HZL.out, List.length_map, LR.out]) (B8_one _) ?_))
      intro w5 h5
      have H5 := Lib.hid h5
      clear h5
      go_wp2
      exact ret_cell_tmp 2 54 3 rfl w.heap.size 54 (R.map B8) _ .nilIface rfl rfl H5.out.at_ Try.underlying54 rfl HBS.out rfl (FsPost.yes rfl (by rw [HR.out]) (H5.out.below B4.out B4.out.size (Nat.le_refl _)))
    | false =>
      obtain ⟨⟨T, x, rfl⟩, ⟨ks, lk, k1, a4⟩, g4⟩ := h4.2 rfl
      obtain ⟨z4, b4⟩ := BX.out _ g4
      have A4 := Lib.hid a4
      have Z4 := Lib.hid z4
      have B4 := Lib.hid b4
      have LR := Lib.hid lk
      have K1 := Lib.hid k1
      clear a4 z4 b4 h4 g4 lk k1
      have HBS := Lib.hid (show (Try.prog.info? 54).map (·.size) = some ks.length by rw [LR.out]; exact Try.sizeI)
      go_wp2_with (first
        | (refine wpList_get rfl 54 (.tmp 13) rfl w1.heap.size (by rfl) 54 ks _ A4.out Try.underlying54 rfl HBS.out ?_)
        | (refine wpList_put rfl 54 (.tmp 2) (.tmp 14) rfl w.heap.size ks (by rfl) (by rfl) 54 Z Z4.out HBS.out (by rw [HZL.out, LR.out]) K1.out ?_))
      intro w5 h5
      have H5 := Lib.hid h5
      clear h5
      go_wp2
      exact ret_cell_tmp 2 54 3 rfl w.heap.size 54 ks _ (.iface T x) rfl rfl H5.out.at_ Try.underlying54 rfl HBS.out rfl (FsPost.no rfl ⟨T, x, ks, LR.out, K1.out, rfl⟩ (H5.out.below B4.out B4.out.size (Nat.le_refl _)))
  · have E0 := Lib.hid (show ok = false by rw [HOK.out]; unfold readOk; rw [HLN.out, decide_eq_false h20]; rfl)
    have H20 := Lib.hid h20
    clear h20
    go_enter Try.func33, Try.ntmps33
    go_wp2_with (refine wpList_var rfl 54 rfl (.agg Z.toArray) Z hz rfl ?_)
    intro w1 h1
    have H1 := Lib.hid h1
    clear h1 hz
    go_wp2_with (first | (refine wpList_build0 rfl 54 rfl (.agg Z.toArray) bz ?_) | (refine wpList_boxed rfl 54 (.tmp 6) rfl (.agg Z.toArray) Z (by rfl) rfl ?_))
    intro w2 h2
    have H2 := Lib.hid h2
    clear h2 bz
    go_wp2_with (refine wpList_toB rfl 9 22 (.tmp 9) rfl 5 Try.underlying9 Try.underlying22 Try.underlying5 s (by rfl) ?_)
    intro c w3 hc hs hb
    rw [← HNE.out]
    have HS := Lib.hid hs
    have HB := Lib.hid hb
    have A3 := Lib.hid (H2.out.at_.below hb H2.out.at_.lt)
    have Z3 := Lib.hid ((H2.out.keep H1.out.at_).below hb (by have := H1.out.size; have := H2.out.size; omega))
    clear hc hs hb
    go_wp2_with fail
    refine (unm_len (some ⟨w2.heap.size, 0, none⟩) n c w1.heap.size H20.out w3).mono ?_
    rintro e w4 ⟨⟨T, x, rfl⟩, rfl⟩
    have HBS := Lib.hid (show (Try.prog.info? 54).map (·.size) = some Z.length by rw [HZL.out]; exact Try.sizeI)
    go_wp2_with (first
      | (refine wpList_get rfl 54 (.tmp 13) rfl w1.heap.size (by rfl) 54 Z _ A3.out Try.underlying54 rfl HBS.out ?_)
      | (refine wpList_put rfl 54 (.tmp 2) (.tmp 14) rfl w.heap.size Z (by rfl) (by rfl) 54 Z Z3.out HBS.out rfl HZ1.out ?_))
    intro w5 h5
    have H5 := Lib.hid h5
    clear h5
    go_wp2
    refine ret_cell_tmp 2 54 3 rfl w.heap.size 54 Z _ (.iface T x) rfl rfl H5.out.at_ Try.underlying54 rfl HBS.out rfl (FsPost.no E0.out ⟨T, x, Z, HZL.out, HZ1.out, rfl⟩ ?_)
    have s1 := H1.out.size
    have s2 := H2.out.size
    have b3 : Below w.heap.size w _ := (H2.out.below (H1.out.below (Below.refl _ _) (Nat.le_refl _)) (by omega)).trans (HB.out.mono (by omega))
    exact H5.out.below b3 b3.size (Nat.le_refl _)
def ReadPost (ok : Bool) (l : List UInt8) (w : World) (e : Ending) (w' : World) : Prop :=
  (ok = true → (∃ v, e = .returned (.tuple #[v, .bool true]) ∧ NewBytes w w' v (readB l)) ∧ Below w.heap.size w w') ∧
  (ok = false → e = .returned (.tuple #[.slice none 0 0, .bool false]) ∧ Below w.heap.size w w')
set_option maxRecDepth 100000 in
set_option maxHeartbeats 1000000 in
theorem xidRead_any (s : ByteArray) (w : World) :
    Calls Try.prog 14 #[.string s] w (ReadPost (readOk s.data.toList) s.data.toList w) := by
  have HFS := Lib.hid (fromString_any s w)
  have LL := Lib.hid (fun h : readOk s.data.toList = true => readB_length s.data.toList (by unfold readOk at h; simp only [Bool.and_eq_true, decide_eq_true_eq] at h; exact h.1.1))
  obtain ⟨ok, hok⟩ : ∃ ok, ok = readOk s.data.toList := ⟨_, rfl⟩
  obtain ⟨l, hl⟩ : ∃ l, l = s.data.toList := ⟨_, rfl⟩
  rw [← hok] at HFS LL
  rw [← hl] at HFS LL
  rw [← hok, ← hl]
  obtain ⟨Z, hZ⟩ : ∃ Z, Z = z12.map B8 := ⟨_, rfl⟩
  have hz : ∀ w, (zeroValue 54).run Try.prog w = .ok (.agg Z.toArray) w := hZ ▸ Try.zeroI
  have HZL := Lib.hid (show Z.length = 12 by simp [hZ, z12])
  clear hok hl hZ
  go_enter Try.func14, Try.ntmps14
  go_wp2_with fail
  refine HFS.out.mono ?_
  intro e w1 h1
  cases ok with
  | true =>
    obtain ⟨rfl, b1⟩ := h1.1 rfl
    have B1 := Lib.hid b1
    have LR := Lib.hid (LL.out rfl)
    clear h1 b1
    obtain ⟨R, hR⟩ : ∃ R, R = readB l := ⟨_, rfl⟩
    rw [← hR] at LR ⊢
    have HR := Lib.hid hR
    have HBS := Lib.hid (sizeI_of R LR.out)
    clear hR
    go_wp2_with (refine wpList_var rfl 54 rfl (.agg Z.toArray) Z hz rfl ?_)
    intro w2 h2
    have H2 := Lib.hid h2
    clear h2 hz
    go_wp2_with (refine wpList_put rfl 54 (.tmp 4) (.tmp 9) rfl w1.heap.size (R.map B8) (by rfl) (by rfl) 54 Z H2.out.at_ HBS.out (by rw [HZL.out, List.length_map, LR.out]) (B8_one _) ?_)
    intro w6 h6
    have H6 := Lib.hid h6
    clear h6
    have HO := Lib.hid (own_empty w6 5 w6.heap.size (Nat.le_refl _))
    have HBy := Lib.hid ((H6.out.at_.byt).below (B := w6.heap.size) ((Below.refl _ _).alloc (Nat.le_refl _) (.cells #[] 5)) (Nat.le_refl _))
    go_wp2_with (refine wpList_appB rfl (.tmp 13) (.tmp 14) 22 rfl w6.heap.size 5 Try.underlying22 Try.info8 _ 0 [] (by rfl) HO.out (some ⟨w1.heap.size, 0, none⟩) 12 12 R (by rfl) HBy.out LR.out (by simp) (by omega) (by simp) ?_)
    intro v' w7 h7 g7
    have H7 := Lib.hid h7
    have G7 := Lib.hid g7
    clear h7 g7
    go_wp2
    go_ret2
    obtain ⟨-, g, cap, e1, e2, e3⟩ := own_byt (bs := R) H7.out (by omega)
    have s2 := H2.out.size
    have s6 := H6.out.size
    have B6 : Below w.heap.size w w6 := H6.out.below (H2.out.below B1.out B1.out.size) (by have := B1.out.size; omega) B1.out.size
    refine ⟨fun _ => ⟨⟨v', rfl, ⟨g, cap, by rw [e1, ← HR.out, LR.out], Nat.le_trans B6.size e2, by rw [← HR.out]; exact e3⟩⟩, ?_⟩, (fun h => by cases h)⟩
    exact (B6.alloc B6.size _).grown G7.out (by have := B6.size; simp; omega) (by have := B6.size; simp [Value.ownBlock]; omega)
  | false =>
    obtain ⟨⟨T, x, ks, lk, k1, rfl⟩, b1⟩ := h1.2 rfl
    have B1 := Lib.hid b1
    have LR := Lib.hid lk
    have K1 := Lib.hid k1
    clear h1 b1 lk k1
    have HBS := Lib.hid (show (Try.prog.info? 54).map (·.size) = some ks.length by rw [LR.out]; exact Try.sizeI)
    go_wp2_with (refine wpList_var rfl 54 rfl (.agg Z.toArray) Z hz rfl ?_)
    intro w2 h2
    have H2 := Lib.hid h2
    clear h2 hz
    go_wp2_with (refine wpList_put rfl 54 (.tmp 4) (.tmp 9) rfl w1.heap.size ks (by rfl) (by rfl) 54 Z H2.out.at_ HBS.out (by rw [HZL.out, LR.out]) K1.out ?_)
    intro w6 h6
    have H6 := Lib.hid h6
    clear h6
    go_wp2
    go_ret2
    refine ⟨(fun h => by cases h), fun _ => ⟨rfl, H6.out.below (H2.out.below B1.out B1.out.size) (by have := B1.out.size; have := H2.out.size; omega) B1.out.size⟩⟩
end Go.Proofs.Ytppcpidlnpencaa
