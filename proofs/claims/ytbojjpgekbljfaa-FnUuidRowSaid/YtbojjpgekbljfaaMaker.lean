/-
  The thin package's maker: a generator over a clock, an address and a reader of some bytes.
-/
import Derived.Test.YtbojjpgekbljfaaNewGen
import Derived.Test.YtbojjpgekbljfaaFeed
namespace Go.Proofs.Ytbojjpgekbljfaa
open Go.RowKit
set_option linter.unusedVariables false
theorem At.eq {w w' : World} {g : Nat} {t : TypeId} {cs : List Value} (h : At w g t cs) (he : w'.heap[g]? = w.heap[g]?) : At w' g t cs := he.trans h
def epV (q : Nat) : Value := .func (.func 27) #[.pointer (some ⟨q, 0, none⟩)] #[]
def hwV (q : Nat) : Value := .func (.func 41) #[.pointer (some ⟨q, 0, none⟩)] #[]
def rdV (f : Nat) : Value := .iface 76 (.pointer (some ⟨f, 0, none⟩))
set_option maxRecDepth 100000 in
theorem genOpts3 (s c1 c2 c3 cap : Nat) (f1 f2 : Fn) (x1 y1 x2 y2 : Array Value) (T : TypeId) (X : Value) (w : World)
    (hs : At w s 71 [.func (.func 56) #[] #[.pointer (some ⟨c1, 0, none⟩)], .func (.func 57) #[] #[.pointer (some ⟨c2, 0, none⟩)], .func (.func 58) #[] #[.pointer (some ⟨c3, 0, none⟩)]])
    (h1 : At w c1 93 [.func f1 x1 y1]) (h2 : At w c2 94 [.func f2 x2 y2]) (h3 : At w c3 92 [.iface T X]) :
    Calls Try.prog 38 #[.slice (some ⟨s, 0, none⟩) 3 cap] w (GenOk (.iface T X) (.func f1 x1 y1) (.func f2 x2 y2) w) := by
  have HS := Lib.hid hs
  have C1 := Lib.hid h1
  have C2 := Lib.hid h2
  have C3 := Lib.hid h3
  clear hs h1 h2 h3
  go_enter Try.func38, Try.ntmps38
  go_wp2_with (first
    | (refine wpList_buildC rfl 97 _ #[(3, ep0), (4, hw0), (2, rd0)] rfl (by rfl) (.agg (genB rd0 ep0 hw0).toArray) gen0_build ?_)
    | (refine wpList_boxed rfl 97 (.tmp 8) rfl (.agg (genB rd0 ep0 hw0).toArray) (genB rd0 ep0 hw0) (by rfl) rfl ?_))
  intro w1 h1
  have S1 := Lib.hid (HS.out.grown h1.grown (by simp))
  have D1 := Lib.hid (C1.out.grown h1.grown (by simp))
  have D2 := Lib.hid (C2.out.grown h1.grown (by simp))
  have D3 := Lib.hid (C3.out.grown h1.grown (by simp))
  have k1 := S1.out.cell 0 (by simp)
  have H1 := Lib.hid h1
  clear h1
  go_wp2_with (refine wp_loop_rounds 4 ?_)
  rw [rounds_succ]
  go_wp2_with fail
  refine (optEp w.heap.size c1 _ rfl f1 x1 y1 w1 H1.out.at_ D1.out).mono ?_
  rintro e w2 ⟨rfl, h2⟩
  have H2 := Lib.hid h2
  have S2 := Lib.hid (h2.keep S1.out (by have := HS.out.lt; omega))
  have k2 := S2.out.cell 1 (by simp)
  clear h2 k1
  go_wp2_with fail
  rw [rounds_succ]
  go_wp2_with fail
  refine (optHW w.heap.size c2 _ rfl f2 x2 y2 w2 H2.out.at_ (H2.out.keep D2.out (by have := C2.out.lt; omega))).mono ?_
  rintro e w3 ⟨rfl, h3⟩
  have H3 := Lib.hid h3
  have S3 := Lib.hid (h3.keep S2.out (by have := HS.out.lt; omega))
  have k3 := S3.out.cell 2 (by simp)
  clear h3 k2
  go_wp2_with fail
  rw [rounds_succ]
  go_wp2_with fail
  refine (optRd w.heap.size c3 _ rfl T X w3 H3.out.at_ (H3.out.keep (H2.out.keep D3.out (by have := C3.out.lt; omega)) (by have := C3.out.lt; omega))).mono ?_
  rintro e w4 ⟨rfl, h4⟩
  have H4 := Lib.hid h4
  clear h4 k3
  go_wp2_with fail
  rw [rounds_succ]
  go_wp2
  go_ret
  have b1 := H1.out.below (Below.refl w.heap.size w) (Nat.le_refl _)
  have b2 := H2.out.below b1 b1.size (Nat.le_refl _)
  have b3 := H3.out.below b2 b2.size (Nat.le_refl _)
  have b4 := H4.out.below b3 b3.size (Nat.le_refl _)
  exact ⟨_, rfl, Nat.le_refl _, H4.out.at_, b4⟩
def MakerOk (q : Nat) (ds : List UInt8) (w0 w : World) (e : Ending) (w' : World) : Prop :=
  ∃ g f, e = .returned (.pointer (some ⟨g, 0, none⟩)) ∧ w.heap.size ≤ g ∧ w.heap.size ≤ f ∧ f ≠ g ∧ At w' g 97 (genB (rdV f) (epV q) (hwV q)) ∧ FeedAt w0 w' f ds ∧ Below w.heap.size w w'
theorem feed_build (A : Option Addr) (n c : Nat) (w : World) : (Instr.build 78 #[(0, .slice A n c)]).run Try.prog w = .ok (.agg #[.slice A n c]) w := by kernel_rfl
set_option maxRecDepth 100000 in
theorem maker_any (q : Nat) (A : Option Addr) (n c : Nat) (ds : List UInt8) (hl : ds.length = n) (hc : A = none → c = 0) (hnc : n ≤ c) (w0 w : World) (hb : Byt w0 A ds) :
    Calls Try.prog 24 #[.pointer (some ⟨q, 0, none⟩), .slice A n c] w (MakerOk q ds w0 w) := by
  have hmf := Try.hmf
  have HL := Lib.hid hl
  have HC := Lib.hid hc
  have HB := Lib.hid hb
  have HN := Lib.hid hnc
  clear hl hc hb hnc
  go_enter Try.func24, Try.ntmps24
  go_wp2_with fail
  refine (withEp_any _ _ _ w).mono ?_
  rintro e w1 ⟨rfl, h1⟩
  have H1 := Lib.hid h1
  clear h1
  go_wp2_with fail
  refine (withHW_any _ _ _ w1).mono ?_
  rintro e w2 ⟨rfl, h2⟩
  have H2 := Lib.hid h2
  clear h2
  go_wp2_with (first
    | (refine wpList_buildC rfl 78 _ #[(0, .slice A n c)] rfl (by rfl) (.agg #[.slice A n c]) (feed_build A n c) ?_)
    | (refine wpList_boxed rfl 78 (.tmp 12) rfl (.agg #[.slice A n c]) [.slice A n c] (by rfl) rfl ?_))
  intro w3 h3
  have H3 := Lib.hid h3
  clear h3
  go_wp2_with fail
  refine (withRd_any _ _ w3).mono ?_
  rintro e w4 ⟨rfl, h4⟩
  have H4 := Lib.hid h4
  clear h4
  have H5 := Lib.hid (NewB.alloc w4 71 [.func (.func 56) #[] #[.pointer (some ⟨w.heap.size, 0, none⟩)], .func (.func 57) #[] #[.pointer (some ⟨w1.heap.size, 0, none⟩)], .func (.func 58) #[] #[.pointer (some ⟨w3.heap.size, 0, none⟩)]])
  go_wp2_with fail
  refine (genOpts3 w4.heap.size w.heap.size w1.heap.size w3.heap.size 3 _ _ _ _ _ _ _ _ _ H5.out.at_ (H5.out.keep (H4.out.keep (H3.out.keep (H2.out.keep H1.out.at_)))) (H5.out.keep (H4.out.keep (H3.out.keep H2.out.at_))) (H5.out.keep H4.out.at_)).mono ?_
  rintro e w6 ⟨g, rfl, h6, h7, h8⟩
  have s1 := H1.out.size
  have s2 := H2.out.size
  have s3 := H3.out.size
  have s4 := H4.out.size
  have s5 := H5.out.size
  have B1 := H1.out.below (Below.refl w.heap.size w) (Nat.le_refl _)
  have B2 := H2.out.below B1 B1.size
  have B3 := H3.out.below B2 B2.size
  have B4 := H4.out.below B3 B3.size
  have B5 := H5.out.below B4 B4.size
  have F := (H5.out.keep (H4.out.keep H3.out.at_)).below h8 (by omega)
  have HH := Lib.hid (show MakerOk q ds w0 w (.returned (.pointer (some ⟨g, 0, none⟩))) w6 from ⟨g, w2.heap.size, rfl, by omega, by omega, by omega, h7, ⟨A, n, c, F, HL.out, HB.out, HC.out, HN.out⟩, B5.trans (h8.mono B5.size)⟩)
  clear h6 h7 h8 s1 s2 s3 s4 s5 B1 B2 B3 B4 B5 F
  go_wp2
  go_ret
  exact HH.out
end Go.Proofs.Ytbojjpgekbljfaa
