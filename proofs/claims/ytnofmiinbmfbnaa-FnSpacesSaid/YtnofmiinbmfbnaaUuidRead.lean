/-
  FromString of the package uuid, and the thin package's UuidRead.
-/
import Derived.Test.YtnofmiinbmfbnaaParseAny
namespace Go.Proofs.Ytnofmiinbmfbnaa
open Go.RowKit
set_option linter.unusedVariables false
theorem run_toB {P : Program} (w : World) (src dst e : TypeId) (s : ByteArray) {u : TypeDesc} (hs : P.underlying src = some u) (hd : P.underlying dst = some (.slice e)) (he : P.underlying e = some (.int .u8)) :
    ∃ c w', (convert src dst (.string s)).run P w = .ok (.slice (some ⟨w.heap.size, 0, none⟩) s.data.toList.length c) w' ∧ s.data.toList.length ≤ c ∧ CellsL w' w.heap.size s.data.toList ∧ w'.heap.size = w.heap.size + 1 ∧ Below w.heap.size w w' := by
  refine ⟨_, _, Lib.run_convert_string_bytes w src dst e s hs hd he, ?_, fun i hi => ?_, Lib.bytesWorld_size w e s, rfl, rfl, rfl, by rw [Lib.bytesWorld_size]; omega, fun k hk => Lib.bytesWorld_at_old w e s k hk⟩
  · simpa using grownCap_ge w s.size 0 e
  · have hi' : i < s.size := by simpa using hi
    exact Lib.bytesWorld_cell w e s i hi'
theorem wpList_toB {P : Program} {w : World} {ops : Array Oper} {rest : List Oper} {o : Oper} {a : Act} {Q : Exit → Act → World → Prop} (hgd : o.guard = none) (sT dT : TypeId) (x : Operand) (ho : o.op = .convert sT dT x) (e : TypeId) {u : TypeDesc}
    (hs : P.underlying sT = some u) (hd : P.underlying dT = some (.slice e)) (he : P.underlying e = some (.int .u8)) (s : ByteArray) (n : Nat) (hn : s.data.toList.length = n) (hx : a.eval x = .string s)
    (h : ∀ c w', n ≤ c → CellsL w' w.heap.size s.data.toList → w'.heap.size = w.heap.size + 1 → Below w.heap.size w w' → wpList P ops Q rest (a.put o.dst (.slice (some ⟨w.heap.size, 0, none⟩) n c)) w') : wpList P ops Q (o :: rest) a w := by
  subst hn
  refine wpList_plain hgd fun K hK => ?_
  obtain ⟨c, w', hrun, h0, h1, h2, h3⟩ := run_toB (P := P) w sT dT e s hs hd he
  unfold Oper.wp execOp
  simp only [ho, hx, Sem.run_bind, hrun, Result.andThen_ok, Sem.run_pure]
  exact hK _ _ (h c w' h0 h1 h2 h3)
set_option maxRecDepth 100000 in
theorem uparse_any (g : Nat) (s : ByteArray) (cur : List Value) (hcur : cur.length = 16) (h1 : ∀ v ∈ cur, v.oneCell' = true) (w : World) (hg : At w g 63 cur) :
    Calls Try.prog 58 #[.pointer (some ⟨g, 0, none⟩), .string s] w fun e w' => ∃ u, PPost (implO s.data.toList) u g e w' ∧ Below w.heap.size w u ∧ g < w.heap.size := by
  have HCU := Lib.hid hcur
  have H1 := Lib.hid h1
  have HG := Lib.hid hg
  obtain ⟨l, hl⟩ : ∃ l, l = s.data.toList := ⟨_, rfl⟩
  have HL := Lib.hid hl
  obtain ⟨n, hn⟩ : ∃ n, n = l.length := ⟨_, rfl⟩
  have HN := Lib.hid hn
  rw [← hl]
  clear hcur h1 hg hl hn
  go_enter Try.func58, Try.ntmps58
  go_wp2_with (refine wpList_toB rfl 9 27 (.tmp 5) rfl 5 Try.underlying9 Try.underlying27 Try.underlying5 s n (by rw [← HL.out, HN.out]) (by rfl) ?_)
  intro c w1 hc hcl hs hb
  rw [← HL.out] at hcl
  have A1 := Lib.hid (HG.out.below hb HG.out.lt)
  have HC := Lib.hid hc
  have HCL := Lib.hid hcl
  have HB := Lib.hid hb
  clear hc hcl hb hs
  go_wp2_with fail
  refine (HN.out ▸ parse_any g w.heap.size c l (HN.out ▸ HC.out) cur HCU.out H1.out w1 A1.out HCL.out (by have := HG.out.lt; omega)).mono ?_
  intro e w2 h2
  cases hr : implO l with
  | some out =>
    obtain ⟨rfl, a2, l2, g2⟩ := h2.1 out hr
    have A2 := Lib.hid a2
    have L2 := Lib.hid l2
    have G2 := Lib.hid g2
    have R2 := Lib.hid hr
    clear h2 a2 l2 g2 hr
    go_wp2
    go_ret
    exact ⟨w1, PPost.yes out R2.out rfl A2.out L2.out G2.out, HB.out, HG.out.lt⟩
  | none =>
    obtain ⟨⟨T, x, rfl⟩, ⟨ks, k1, k2, k3⟩, g2⟩ := h2.2 hr
    have K1 := Lib.hid k1
    have K2 := Lib.hid k2
    have K3 := Lib.hid k3
    have G2 := Lib.hid g2
    have R2 := Lib.hid hr
    clear h2 k1 k2 k3 g2 hr
    go_wp2
    go_ret
    exact ⟨w1, PPost.no R2.out T x rfl ks K1.out K2.out K3.out G2.out, HB.out, HG.out.lt⟩
def FsPost (r : Option (List UInt8)) (w : World) (e : Ending) (w' : World) : Prop :=
  (∀ out, r = some out → e = .returned (.tuple #[.agg (out.map B8).toArray, .nilIface]) ∧ out.length = 16 ∧ Below w.heap.size w w') ∧
  (r = none → (∃ (T : TypeId) (x : Value) (ks : List Value), e = .returned (.tuple #[.agg ks.toArray, .iface T x])) ∧ Below w.heap.size w w')
theorem FsPost.yes {r : Option (List UInt8)} {w : World} {e : Ending} {w' : World} (out : List UInt8) (h : r = some out) (h1 : e = .returned (.tuple #[.agg (out.map B8).toArray, .nilIface])) (h2 : out.length = 16) (h3 : Below w.heap.size w w') : FsPost r w e w' :=
  ⟨(fun o ho => by rw [h] at ho; injection ho with ho; subst ho; exact ⟨h1, h2, h3⟩), (fun h' => by rw [h] at h'; cases h')⟩
theorem FsPost.no {r : Option (List UInt8)} {w : World} {e : Ending} {w' : World} (h : r = none) (T : TypeId) (x : Value) (ks : List Value) (h1 : e = .returned (.tuple #[.agg ks.toArray, .iface T x])) (h3 : Below w.heap.size w w') : FsPost r w e w' :=
  ⟨(fun o ho => by rw [h] at ho; cases ho), fun _ => ⟨⟨T, x, ks, h1⟩, h3⟩⟩
set_option maxRecDepth 100000 in
theorem ufromString_any (s : ByteArray) (w : World) :
    Calls Try.prog 40 #[.string s] w (FsPost (implO s.data.toList) w) := by
  obtain ⟨Z, hZ⟩ : ∃ Z, Z = z16.map B8 := ⟨_, rfl⟩
  have hz : ∀ w, (zeroValue 63).run Try.prog w = .ok (.agg Z.toArray) w := hZ ▸ Try.zeroU
  have HZ1 := Lib.hid (show ∀ v ∈ Z, v.oneCell' = true from hZ ▸ B8_one z16)
  have HZ := Lib.hid (show Z.length = 16 by simp [hZ, z16])
  have PA := Lib.hid (fun g w (hg : At w g 63 Z) => uparse_any g s Z HZ.out HZ1.out w hg)
  obtain ⟨r, hr⟩ : ∃ r, r = implO s.data.toList := ⟨_, rfl⟩
  rw [← hr] at PA ⊢
  clear hZ hr
  go_enter Try.func40, Try.ntmps40
  go_wp2_with (refine wpList_var rfl 63 rfl (.agg Z.toArray) Z hz rfl ?_)
  intro w1 h1
  have H1 := Lib.hid h1
  clear h1
  go_wp2_with (refine wpList_var rfl 63 rfl (.agg Z.toArray) Z hz rfl ?_)
  intro w2 h2
  have H2 := Lib.hid h2
  clear h2 hz
  go_wp2_with fail
  refine (PA.out w1.heap.size w2 H2.out.at_).mono ?_
  rintro e w4 ⟨u, h4, bu, -⟩
  have BX : Hid (∀ w4, u.grownBy w4 (some w1.heap.size) → At w4 w.heap.size 63 Z ∧ Below w.heap.size w w4) := Lib.hid fun w4 g4 => by
    have s1 := H1.out.size
    have s2 := H2.out.size
    have b3 : Below w.heap.size w u := (H2.out.below (H1.out.below (Below.refl _ _) (Nat.le_refl _)) (by omega)).trans (bu.mono (by omega))
    have a3 : At u w.heap.size 63 Z := (H2.out.keep H1.out.at_).below bu (by omega)
    exact ⟨a3.grown g4 (by simp; omega), b3.grown g4 b3.size (by simp; omega)⟩
  cases r with
  | some out =>
    obtain ⟨rfl, a4, l4, g4⟩ := h4.1 out rfl
    obtain ⟨z4, b4⟩ := BX.out _ g4
    have A4 := Lib.hid a4
    have Z4 := Lib.hid z4
    have B4 := Lib.hid b4
    have LR := Lib.hid l4
    have HBS := Lib.hid (sizeU_of out l4)
    clear a4 z4 b4 h4 g4 l4 bu
    go_wp2_with (first
      | (refine wpList_get rfl 63 (.tmp 4) rfl w1.heap.size (by rfl) 63 (out.map B8) _ A4.out Try.underlying63 rfl HBS.out ?_)
      | (refine wpList_put rfl 63 (.tmp 2) (.tmp 8) rfl w.heap.size (out.map B8) (by rfl) (by rfl) 63 Z Z4.out HBS.out (by rw [HZ.out, List.length_map, LR.out]) (B8_one _) ?_))
    intro w5 h5
    have H5 := Lib.hid h5
    clear h5
    go_wp2
    exact ret_cell_tmp 2 63 3 rfl w.heap.size 63 (out.map B8) _ .nilIface rfl rfl H5.out.at_ Try.underlying63 rfl HBS.out rfl (FsPost.yes out rfl rfl LR.out (H5.out.below B4.out B4.out.size (Nat.le_refl _)))
  | none =>
    obtain ⟨⟨T, x, rfl⟩, ⟨ks, lk, k1, a4⟩, g4⟩ := h4.2 rfl
    obtain ⟨z4, b4⟩ := BX.out _ g4
    have A4 := Lib.hid a4
    have Z4 := Lib.hid z4
    have B4 := Lib.hid b4
    have LR := Lib.hid lk
    have K1 := Lib.hid k1
    have HBS := Lib.hid (show (Try.prog.info? 63).map (·.size) = some ks.length by rw [lk]; exact Try.sizeU)
    clear a4 z4 b4 h4 g4 lk k1 bu
    go_wp2_with (first
      | (refine wpList_get rfl 63 (.tmp 4) rfl w1.heap.size (by rfl) 63 ks _ A4.out Try.underlying63 rfl HBS.out ?_)
      | (refine wpList_put rfl 63 (.tmp 2) (.tmp 8) rfl w.heap.size ks (by rfl) (by rfl) 63 Z Z4.out HBS.out (by rw [HZ.out, LR.out]) K1.out ?_))
    intro w5 h5
    have H5 := Lib.hid h5
    clear h5
    go_wp2
    exact ret_cell_tmp 2 63 3 rfl w.heap.size 63 ks _ (.iface T x) rfl rfl H5.out.at_ Try.underlying63 rfl HBS.out rfl (FsPost.no rfl T x ks rfl (H5.out.below B4.out B4.out.size (Nat.le_refl _)))
def URPost (r : Option (List UInt8)) (w : World) (e : Ending) (w' : World) : Prop :=
  (∀ out, r = some out → (∃ v, e = .returned (.tuple #[v, .bool true]) ∧ NewBytes w w' v out) ∧ out.length = 16 ∧ Below w.heap.size w w') ∧
  (r = none → e = .returned (.tuple #[.slice none 0 0, .bool false]) ∧ Below w.heap.size w w')
set_option maxRecDepth 100000 in
theorem uuidRead_any (s : ByteArray) (w : World) :
    Calls Try.prog 21 #[.string s] w (URPost (implO s.data.toList) w) := by
  have HF := Lib.hid (ufromString_any s w)
  obtain ⟨r, hr⟩ : ∃ r, r = implO s.data.toList := ⟨_, rfl⟩
  rw [← hr] at HF ⊢
  clear hr
  go_enter Try.func21, Try.ntmps21
  go_wp2_with fail
  refine HF.out.mono ?_
  intro e w1 h1
  cases r with
  | some out =>
    obtain ⟨rfl, l1, b1⟩ := h1.1 out rfl
    have L1 := Lib.hid l1
    have B1 := Lib.hid b1
    clear h1 l1 b1
    obtain ⟨cs, hcs⟩ : ∃ cs, cs = (out.map B8).toArray := ⟨_, rfl⟩
    have TY := Lib.hid (hcs ▸ told_yes out L1.out w1)
    rw [← hcs]
    clear hcs
    go_wp2_with fail
    refine TY.out.mono ?_
    rintro e w2 ⟨v, rfl, ⟨g, cap, hv, hg, hy⟩, b2⟩
    have HV := Lib.hid hv
    have HG := Lib.hid hg
    have HY := Lib.hid hy
    have B2 := Lib.hid b2
    clear hv hg hy b2
    go_wp2
    go_ret2
    exact ⟨(fun o ho => by injection ho with ho; subst ho; exact ⟨⟨v, rfl, g, cap, HV.out, Nat.le_trans B1.out.size HG.out, HY.out⟩, L1.out, B1.out.trans (B2.out.mono B1.out.size)⟩), (fun h => by cases h)⟩
  | none =>
    obtain ⟨⟨T, x, ks, rfl⟩, b1⟩ := h1.2 rfl
    have B1 := Lib.hid b1
    clear h1 b1
    go_wp2_with fail
    refine (told_no ks.toArray T x w1).mono ?_
    rintro e w2 ⟨rfl, b2⟩
    have B2 := Lib.hid b2
    clear b2
    go_wp2
    go_ret2
    exact ⟨(fun o ho => by cases ho), fun _ => ⟨rfl, B1.out.trans (B2.out.mono B1.out.size)⟩⟩
end Go.Proofs.Ytnofmiinbmfbnaa
