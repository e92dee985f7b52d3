/-
  FromBytes of sixteen bytes, and of others.
-/
import Derived.Test.YtahkgkonpjimpaaUuid
namespace Go.Proofs.Ytahkgkonpjimpaa
open Go.RowKit
set_option linter.unusedVariables false
set_option maxRecDepth 100000 in
theorem unmarshal_yes (g : Nat) (cur : List Value) (hcur : cur.length = 16) (A : Option Addr) (c : Nat) (bs : List UInt8) (hbs : bs.length = 16) (w : World) (hg : At w g 30 cur) (hb : Byt w A bs) :
    Calls Try.prog 20 #[.pointer (some ⟨g, 0, none⟩), .slice A 16 c] w fun e w' => e = .returned .nilIface ∧ PutB w w' g 30 (bs.map B8) := by
  have HC := Lib.hid hcur
  have HL := Lib.hid hbs
  have HG := Lib.hid hg
  have HB := Lib.hid hb
  clear hcur hbs hg hb
  go_enter Try.func20, Try.ntmps20
  go_wp2_with (refine wpList_copyB rfl (.tmp 11) (.tmp 12) 22 22 rfl 5 Try.underlying22 Try.size8 g 0 16 16 16 c A rfl rfl cur 30 HG.out bs HB.out HL.out 16 rfl bs (List.take_of_length_le (by have := HL.out; omega)) (by have := HC.out; omega) ?_)
  intro w2 h2
  have H2 := Lib.hid h2
  clear h2
  go_wp2
  go_ret
  refine ⟨rfl, ?_⟩
  have := H2.out
  rw [splice_all _ _ (by have := HL.out; have := HC.out; simp; omega)] at this
  exact this

/-- What the error of a wrong length is. -/
def ErrOf (P : Value → Ending) (e : Ending) : Prop := ∃ T x, e = P (.iface T x)

set_option maxRecDepth 100000 in
theorem unmarshal_no (p : Value) (A : Option Addr) (n c : Nat) (hn : n ≠ 16) (w : World) :
    Calls Try.prog 20 #[p, .slice A n c] w fun e w' => ErrOf .returned e ∧ w = w' := by
  have t1 : ((n : Int) != 16) = true := by rw [bne_iff_ne]; omega
  go_enter Try.func20, Try.ntmps20
  go_wp2
  go_ret
  exact ⟨⟨_, _, rfl⟩, rfl⟩

set_option maxRecDepth 100000 in
theorem fromBytes_yes (A : Option Addr) (n c : Nat) (bs : List UInt8) (hn : n = 16) (hbs : bs.length = 16) (w : World) (hb : Byt w A bs) :
    Calls Try.prog 8 #[.slice A n c] w fun e w' => e = .returned (.tuple #[.agg (bs.map B8).toArray, .nilIface]) ∧ Below w.heap.size w w' := by
  subst hn
  have HL := Lib.hid hbs
  have HB := Lib.hid hb
  clear hbs hb
  obtain ⟨Z, hZ⟩ : ∃ Z, Z = z16.map B8 := ⟨_, rfl⟩
  have hz : ∀ w, (zeroValue 30).run Try.prog w = .ok (.agg Z.toArray) w := hZ ▸ Try.zeroU
  have hbd : ∀ w, (Instr.build 30 #[]).run Try.prog w = .ok (.agg Z.toArray) w := hZ ▸ Try.buildU
  have hZ1 : ∀ v ∈ Z, v.oneCell' = true := hZ ▸ B8_one z16
  have HZ := Lib.hid (show Z.length = 16 by simp [hZ, z16])
  have HZS := Lib.hid (show (Try.prog.info? 30).map (·.size) = some Z.length by rw [HZ.out]; exact Try.sizeU)
  have HBS := Lib.hid (sizeU_of bs HL.out)
  have HZ1 := Lib.hid hZ1
  clear hZ hZ1
  go_enter Try.func8, Try.ntmps8
  go_wp2_with (refine wpList_var rfl 30 rfl (.agg Z.toArray) Z hz rfl ?_)
  intro w1 h1
  have H1 := Lib.hid h1
  clear h1
  go_wp2_with (refine wpList_var rfl 30 rfl (.agg Z.toArray) Z hz rfl ?_)
  intro w2 h2
  have H2 := Lib.hid h2
  clear h2
  go_wp2_with (refine wpList_put rfl 30 (.tmp 4) (.tmp 6) rfl w1.heap.size Z rfl rfl 30 Z H2.out.at_ HZS.out rfl HZ1.out ?_)
  intro w3 h3
  have H3 := Lib.hid h3
  clear h3
  have HBel := Lib.hid (((H1.out.below (Below.refl w.heap.size w) (Nat.le_refl _)).grown H2.out.grown (by have := H1.out.size; omega) (by simp)).grown H3.out.grown (by have := H1.out.size; have := H2.out.size; omega) (by have := H1.out.size; simp; omega))
  go_wp2_with fail
  refine (unmarshal_yes w1.heap.size Z HZ.out A c bs HL.out w3 H3.out.at_ (HB.out.below HBel.out (Nat.le_refl _))).mono ?_
  rintro e w4 ⟨rfl, h4⟩
  have H4 := Lib.hid h4
  clear h4
  have A4 := Lib.hid ((((H1.out.at_.grown H2.out.grown (by simp)).grown H3.out.grown (by have := H1.out.size; simp; omega)).grown H4.out.grown (by have := H1.out.size; simp; omega)))
  go_wp2_with (first
    | (refine wpList_get rfl 30 (.tmp 4) rfl w1.heap.size (by rfl) 30 (bs.map B8) _ H4.out.at_ Try.underlying30 rfl HBS.out ?_)
    | (refine wpList_put rfl 30 (.tmp 2) (.tmp 9) rfl w.heap.size (bs.map B8) (by rfl) (by rfl) 30 Z A4.out HBS.out (by rw [HZ.out, List.length_map, HL.out]) (B8_one _) ?_))
  intro w5 h5
  have H5 := Lib.hid h5
  clear h5
  go_wp2
  refine ret_cell_tmp 2 30 3 rfl w.heap.size 30 (bs.map B8) _ .nilIface rfl rfl H5.out.at_ Try.underlying30 rfl HBS.out rfl ⟨rfl, ?_⟩
  have s1 := H1.out.size
  have s2 := H2.out.size
  have s3 := H3.out.size
  have s4 := H4.out.size
  exact H5.out.below (H4.out.below HBel.out (by omega) (by omega)) (by omega) (Nat.le_refl _)

def FromNo (w : World) (e : Ending) (w' : World) : Prop := (∃ (cs : List Value) (T : TypeId) (x : Value), e = .returned (.tuple #[.agg cs.toArray, .iface T x]) ∧ cs.length = 16 ∧ ∀ v ∈ cs, v.oneCell' = true) ∧ Below w.heap.size w w'

set_option maxRecDepth 100000 in
theorem fromBytes_nz (A : Option Addr) (n c : Nat) (hn : n ≠ 16) (w : World) : Calls Try.prog 8 #[.slice A n c] w (FromNo w) := by
  have HN := Lib.hid hn
  clear hn
  obtain ⟨Z, hZ⟩ : ∃ Z, Z = z16.map B8 := ⟨_, rfl⟩
  have hz : ∀ w, (zeroValue 30).run Try.prog w = .ok (.agg Z.toArray) w := hZ ▸ Try.zeroU
  have hbd : ∀ w, (Instr.build 30 #[]).run Try.prog w = .ok (.agg Z.toArray) w := hZ ▸ Try.buildU
  have hZ1 : ∀ v ∈ Z, v.oneCell' = true := hZ ▸ B8_one z16
  have HZ := Lib.hid (show Z.length = 16 by simp [hZ, z16])
  have HZS := Lib.hid (show (Try.prog.info? 30).map (·.size) = some Z.length by rw [HZ.out]; exact Try.sizeU)
  have HZ1 := Lib.hid hZ1
  clear hZ hZ1
  go_enter Try.func8, Try.ntmps8
  go_wp2_with (refine wpList_var rfl 30 rfl (.agg Z.toArray) Z hz rfl ?_)
  intro w1 h1
  have H1 := Lib.hid h1
  clear h1
  go_wp2_with (refine wpList_var rfl 30 rfl (.agg Z.toArray) Z hz rfl ?_)
  intro w2 h2
  have H2 := Lib.hid h2
  clear h2
  go_wp2_with (refine wpList_put rfl 30 (.tmp 4) (.tmp 6) rfl w1.heap.size Z rfl rfl 30 Z H2.out.at_ HZS.out rfl HZ1.out ?_)
  intro w3 h3
  have H3 := Lib.hid h3
  clear h3
  have HBel := Lib.hid (((H1.out.below (Below.refl w.heap.size w) (Nat.le_refl _)).grown H2.out.grown (by have := H1.out.size; omega) (by simp)).grown H3.out.grown (by have := H1.out.size; have := H2.out.size; omega) (by have := H1.out.size; simp; omega))
  go_wp2_with fail
  refine (unmarshal_no _ A n c HN.out w3).mono ?_
  rintro e w4 ⟨⟨T, x, rfl⟩, rfl⟩
  have A4 := Lib.hid ((((H1.out.at_.grown H2.out.grown (by simp)).grown H3.out.grown (by have := H1.out.size; simp; omega))))
  go_wp2_with (first
    | (refine wpList_get rfl 30 (.tmp 4) rfl w1.heap.size (by rfl) 30 Z _ H3.out.at_ Try.underlying30 rfl HZS.out ?_)
    | (refine wpList_put rfl 30 (.tmp 2) (.tmp 9) rfl w.heap.size Z (by rfl) (by rfl) 30 Z A4.out HZS.out rfl HZ1.out ?_))
  intro w5 h5
  have H5 := Lib.hid h5
  clear h5
  go_wp2
  refine ret_cell_tmp 2 30 3 rfl w.heap.size 30 Z _ (.iface T x) rfl rfl H5.out.at_ Try.underlying30 rfl HZS.out rfl ⟨⟨Z, T, x, rfl, HZ.out, HZ1.out⟩, ?_⟩
  have s1 := H1.out.size
  have s2 := H2.out.size
  have s3 := H3.out.size
  exact H5.out.below HBel.out (by omega) (Nat.le_refl _)
end Go.Proofs.Ytahkgkonpjimpaa
