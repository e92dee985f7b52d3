/-
  getClockSequence and getEpoch.
-/
import Derived.Test.YtbojjpgekbljfaaRegR
import Derived.Test.YtbojjpgekbljfaaBeB
import Derived.Test.YtbojjpgekbljfaaTimeB
import Derived.Test.YtbojjpgekbljfaaCell
import Derived.Test.YtbojjpgekbljfaaReg
import Derived.Test.YtbojjpgekbljfaaForm
import Derived.Test.YtbojjpgekbljfaaGen
namespace Go.Proofs.Ytbojjpgekbljfaa
open Go.RowKit
set_option linter.unusedVariables false
set_option maxRecDepth 100000 in
theorem epoch_any (q : Option Addr) (sec nano : Int) (h1 : 0 ≤ sec) (h2 : sec < 5000000000) (h3 : 0 ≤ nano) (h4 : nano < 1000000000) (w : World) :
    Calls Try.prog 61 #[.pointer q, .agg (TimeV sec nano).toArray] w fun e w' => e = .returned (.int .u64 (122192928000000000 + (sec * 1000000000 + nano) / 100)) ∧ Below w.heap.size w w' := by
  obtain ⟨T, hT⟩ : ∃ T, T = TimeV sec nano := ⟨_, rfl⟩
  have HTS := Lib.hid (show (Try.prog.info? 63).map (·.size) = some T.length by rw [hT]; exact Try.sizeT sec nano)
  have UN := Lib.hid (show ∀ w, Calls Try.prog 66 #[.agg T.toArray] w fun e w' => e = .returned (.int .i64 (sec * 1000000000 + nano)) ∧ Below w.heap.size w w' from fun w => by rw [hT]; exact unixNano_any sec nano (by omega) h2 (by omega) h3 h4 w)
  rw [← hT]
  obtain ⟨m, hm⟩ : ∃ m : Nat, (m : Int) = sec * 1000000000 + nano := ⟨(sec * 1000000000 + nano).toNat, by omega⟩
  have hm2 : m < 5000000001000000000 := by omega
  rw [← hm] at UN ⊢
  clear hT hm h1 h2 h3 h4
  go_enter Try.func61, Try.ntmps61
  go_wp2_with (refine wpList_boxed rfl 63 (.tmp 1) rfl (.agg T.toArray) T (by rfl) rfl ?_)
  intro w1 h1
  have H1 := Lib.hid h1
  clear h1
  go_wp2_with (refine wpList_get rfl 63 (.tmp 3) rfl w.heap.size (by rfl) 63 T _ H1.out.at_ Try.underlying63 rfl HTS.out ?_)
  refine (UN.out w1).mono ?_
  rintro e w2 ⟨rfl, b2⟩
  have B2 := Lib.hid b2
  clear b2
  go_wp2
  go_ret
  have s1 := H1.out.size
  exact ⟨rfl, (H1.out.below (Below.refl _ _) (Nat.le_refl _)).trans (B2.out.mono (by omega))⟩
theorem run_mk2 (u : World) : (Instr.makeSlice 22 (.int .i64 2) (.int .i64 2)).run Try.prog u = .ok (.slice (some ⟨u.heap.size, 0, none⟩) 2 2) (u.alloc (.cells ([(0 : UInt8), 0].map B8).toArray 5)) := by
  have e : madeCells #[Value.int .u8 0] 2 = ([(0 : UInt8), 0].map B8).toArray := by kernel_rfl
  rw [← e]; exact run_make_row' 22 5 (.int .u8 0) 1 Try.underlying22 Try.info8 rfl .i64 .i64 2 (by omega) (by omega) u
def CqC (g : Nat) (cs : List Value) (n : Int) (p : Nat) (j : Nat) (x : Value) (u : World) : Prop :=
  match j with
  | 0 => x = .pointer (some ⟨g, 0, none⟩)
  | 1 => x = .slice (some ⟨p, 0, none⟩) 2 2
  | 2 => x = .int .u16 n
  | 3 => x = .pointer (some ⟨g, 0, none⟩)
  | 4 => x = .pointer (some ⟨g, 6, none⟩)
  | 5 => At u g 97 (cs.set 6 (.int .u16 n))
  | _ => True
theorem CqC.below {g : Nat} {cs : List Value} {n : Int} {p : Nat} {j : Nat} {x : Value} {u u' : World} (b : Below u.heap.size u u') (h : CqC g cs n p j x u) : CqC g cs n p j x u' := by
  unfold CqC at *
  split <;> simp only at h ⊢ <;> first | exact h | exact h.below b h.lt
def CqS (w : World) (g : Nat) (cs : List Value) (pp p : Nat) (x0 x1 : UInt8) (u : World) : Prop :=
  w.grownBy u (some g) ∧ At u pp 52 [.pointer (some ⟨g, 0, none⟩)] ∧ (∃ c6, At u g 97 (cs.set 6 c6)) ∧ At u p 5 [B8 x0, B8 x1]
set_option maxRecDepth 100000 in
set_option pp.maxSteps 100000 in
set_option pp.deepTerms true in
theorem clock1_yes (w0 w : World) (g f pp pe : Nat) (cs : List Value) (hlc : cs.length = 17) (hr : cs[2] = rdV f) (ds : List UInt8) (hd : 2 ≤ ds.length) (hdl : ds.length ≤ 70000) (hg : At w g 97 cs) (hf : FeedAt w0 w f ds) (hfg : f ≠ g) (hp : At w pp 52 [.pointer (some ⟨g, 0, none⟩)]) (he : At w pe 58 [.nilIface]) (npf : pp ≠ f) (nef : pe ≠ f) (npg : pp ≠ g) (neg : pe ≠ g) (npe : pp ≠ pe) (h0 : Below w0.heap.size w0 w) (f0 : w0.heap.size ≤ f) (g0 : w0.heap.size ≤ g) :
    Calls Try.prog 59 #[.pointer (some ⟨pp, 0, none⟩), .pointer (some ⟨pe, 0, none⟩)] w fun e w' => e = .returned (.tuple #[]) ∧ At w' g 97 (cs.set 6 (.int .u16 (numB (ds.take 2) : Int))) ∧ FeedAt w0 w' f (ds.drop 2) ∧ Two w w' f g := by
  obtain ⟨x0, x1, hx⟩ : ∃ x0 x1, ds.take 2 = [x0, x1] := by
    match ds, hd with
    | a :: b :: l, _ => exact ⟨a, b, rfl⟩
  have SP := Lib.hid (show splice ([(0 : UInt8), 0].map B8) 0 ((ds.take 2).map B8) = [B8 x0, B8 x1] by rw [hx]; exact splice_all _ _ (by simp))
  have HX := Lib.hid hx
  have LP := Lib.hid hp.lt
  have HE := Lib.hid he
  have LE := Lib.hid he.lt
  have LF := Lib.hid hf.lt
  have LG := Lib.hid hg.lt
  have mk := run_mk2 w
  have nb := NewB.alloc w 5 ([(0 : UInt8), 0].map B8)
  generalize w.alloc (.cells ([(0 : UInt8), 0].map B8).toArray 5) = w1 at nb mk
  have NB := Lib.hid nb
  clear nb
  have P1 := Lib.hid (NB.out.keep hp)
  have E1 := Lib.hid (NB.out.keep he)
  have G1 := Lib.hid (NB.out.keep hg)
  have b1 := NB.out.below (Below.refl w.heap.size w) (Nat.le_refl _)
  have F1 := Lib.hid (hf.eq (b1.block f hf.lt))
  have Z1 := Lib.hid (h0.trans (b1.mono h0.size))
  have R := Lib.hid (readFull_yes w0 w1 f w.heap.size 0 2 2 5 _ ds (by omega) hd hdl (by omega) (by simp) F1.out NB.out.at_ (by have := LF.out; omega) Z1.out)
  have k0 : w1.cell? ⟨pp, 0, none⟩ = some (.pointer (some ⟨g, 0, none⟩)) := P1.out.cell 0 (by simp)
  have k1 : w1.cell? ⟨g, 2, none⟩ = some (rdV f) := by rw [G1.out.cell 2 (by omega), hr]
  unfold rdV at k1
  clear hx hp he hf hg b1 h0
  go_enter Try.func59, Try.ntmps59
  go_wp2_with fail
  refine (R.out).mono ?_
  rintro e w2 ⟨rfl, r1, r2, r3⟩
  have F2 := Lib.hid r1
  have T2 := Lib.hid r3
  have A2 := Lib.hid (show At w2 w.heap.size 5 [B8 x0, B8 x1] by rw [← SP.out]; exact r2)
  have P2 := Lib.hid (r3.at_ P1.out npf (by have := LP.out; omega))
  have E2 := Lib.hid (r3.at_ E1.out nef (by have := LE.out; omega))
  have G2 := Lib.hid (r3.at_ G1.out (Ne.symm hfg) (by have := LG.out; omega))
  have q1 : w2.cell? ⟨pe, 0, none⟩ = some .nilIface := E2.out.cell 0 (by simp)
  have q2 := E2.out.frozen 0
  clear k0 k1 r1 r2 r3
  go_wp2_with fail
  have PE := PutB.setCell E2.out 0 .nilIface
  generalize w2.setCell ⟨pe, 0, none⟩ .nilIface = w3 at PE ⊢
  have LC := Lib.hid hlc
  have B3 := PE.grown
  have G3 := Lib.hid (G2.out.grown B3 (by simp; omega))
  have S3 := Lib.hid (show CqS w3 g cs pp w.heap.size x0 x1 w3 from ⟨World.grownBy.refl _ _, P2.out.grown B3 (by simp; omega), ⟨cs[6], by rw [List.set_getElem_self]; exact G3.out⟩, A2.out.grown B3 (by simp; have := LE.out; omega)⟩)
  have F3 := Lib.hid (F2.out.eq (B3.block f F2.out.lt (by simp; omega)))
  have T3 := Lib.hid (show Two w w3 f g by
    have e3 : w3.heap[pe]? = w.heap[pe]? := (PE.at_).trans (show w.heap[pe]? = _ from HE.out).symm
    refine ⟨by rw [B3.os, T2.out.os, NB.out.grown.os], by rw [B3.tape, T2.out.tape, NB.out.grown.tape], by rw [B3.output, T2.out.output, NB.out.grown.output], ?_, ?_⟩
    · have := B3.size; have := T2.out.size; have := NB.out.size; omega
    · intro k hk n1 n2
      by_cases hke : k = pe
      · rw [hke]; exact e3
      · have := T2.out.size; have := NB.out.size
        rw [B3.block k (by omega) (by simp; omega), T2.out.block k (by omega) n1 (by omega), NB.out.grown.block k hk (by simp)])
  clear PE B3 q1 q2
  refine wp_region_inv (RI (fun v => ⟨#[Value.pointer (some { block := pp, off := 0 }), Value.pointer (some { block := pe, off := 0 }),
          Value.slice (some { block := w.heap.size, off := 0 }) 2 2,
          Value.slice (some { block := w.heap.size, off := 0 }) 2 2,
          Value.tuple #[Value.int IntKind.i64 2, Value.nilIface], Value.pointer (some { block := g, off := 0 }),
          Value.pointer (some { block := g, off := 0 }), Value.pointer (some { block := g, off := 2 }),
          Value.iface 76 (Value.pointer (some { block := f, off := 0 })),
          Value.slice (some { block := w.heap.size, off := 0 }) 2 2,
          Value.tuple #[Value.int IntKind.i64 2, Value.nilIface], Value.int IntKind.i64 2, Value.nilIface,
          Value.nilIface, Value.bool false, v 0, v 1, v 2, v 3, v 4], []⟩) (CqC g cs (numB [x0, x1] : Int) w.heap.size) (CqS w3 g cs pp w.heap.size x0 x1)) [0, 1, 2, 3, 4, 5] (by kernel_rfl) (by kernel_rfl) (by kernel_rfl) ?_ ?_ ?_
  · exact ⟨fun _ => undef, rfl, (fun j hj => by rw [getD_replicate_false] at hj; cases hj), ⟨⟨rfl, rfl, rfl, Nat.le_refl _, fun _ _ _ => rfl⟩, S3.out.2.1.drew, (let ⟨c6, hc6⟩ := S3.out.2.2.1; ⟨c6, hc6.drew⟩), S3.out.2.2.2.drew⟩⟩
  · refine AllI.cons ?_ (AllI.cons ?_ (AllI.cons ?_ (AllI.cons ?_ (AllI.cons ?_ (AllI.cons ?_ AllI.nil)))))
    · refine stepRI [] rfl rfl (by kernel_rfl) fun v u hv hS K hK => ?_
      have k0 : u.cell? ⟨pp, 0, none⟩ = some (.pointer (some ⟨g, 0, none⟩)) := hS.2.1.cell 0 (by simp)
      have HS := Lib.hid hS
      clear hS
      go_simp
      exact hK.out _ _ _ (by simp [upd]) (fun _ _ _ h => h) rfl HS.out
    · refine stepRI [] rfl rfl (by kernel_rfl) fun v u hv hS K hK => ?_
      go_simp
      exact hK.out _ _ _ (by simp [upd]) (fun _ _ _ h => h) rfl hS
    · refine stepRI [1] rfl rfl (by kernel_rfl) fun v u hv hS K hK => ?_
      have e1 := hv 1 rfl
      simp only [CqC] at e1
      have BE := Lib.hid (be16_any w.heap.size 0 2 2 x0 x1 rfl u (hS.2.2.2.cell 0 (by simp)) (hS.2.2.2.cell 1 (by simp)))
      have HS := Lib.hid hS
      clear hS
      go_simp
      go_at_call 60
      refine BE.out.mono ?_
      rintro e u' ⟨rfl, b2⟩
      go_wp2_with fail
      obtain ⟨c6, hc6⟩ := HS.out.2.2.1
      exact hK.out _ _ _ (by simp [upd, e1]) (fun j x _ h => h.below b2) rfl ⟨grown_trans' HS.out.1 (grown_of_below b2 _), HS.out.2.1.below b2 HS.out.2.1.lt, ⟨c6, hc6.below b2 hc6.lt⟩, HS.out.2.2.2.below b2 HS.out.2.2.2.lt⟩
    · refine stepRI [0] rfl rfl (by kernel_rfl) fun v u hv hS K hK => ?_
      have e0 := hv 0 rfl
      simp only [CqC] at e0
      go_simp
      exact hK.out _ _ _ (by simp [upd, e0]) (fun _ _ _ h => h) rfl hS
    · refine stepRI [3] rfl rfl (by kernel_rfl) fun v u hv hS K hK => ?_
      have e3 := hv 3 rfl
      simp only [CqC] at e3
      go_simp
      exact hK.out _ _ _ (by simp [upd, e3]) (fun _ _ _ h => h) rfl hS
    · refine stepRI [2, 4] rfl rfl (by kernel_rfl) fun v u hv hS K hK => ?_
      have e2 := hv 2 rfl
      have e4 := hv 4 rfl
      simp only [CqC] at e2 e4
      have HS := Lib.hid hS
      obtain ⟨c6, hc6⟩ := hS.2.2.1
      have k6 : u.cell? ⟨g, 6, none⟩ = some c6 := by rw [hc6.cell 6 (by simp [LC.out])]; simp
      have f6 := hc6.frozen 6
      have P6 := Lib.hid (PutB.setCell hc6 6 (.int .u16 (numB [x0, x1] : Int)))
      clear hS hc6
      go_simp
      have ag : At (u.setCell ⟨g, 6, none⟩ (.int .u16 (numB [x0, x1] : Int))) g 97 (cs.set 6 (.int .u16 (numB [x0, x1] : Int))) := by have h := P6.out.at_; rwa [List.set_set] at h
      refine hK.out _ undef _ (by simp [upd, e2, e4]) (fun j x hj h => ?_) ag ⟨grown_trans' HS.out.1 P6.out.grown, HS.out.2.1.grown P6.out.grown (by simp; omega), ⟨_, ag⟩, HS.out.2.2.2.grown P6.out.grown (by simp; have := LG.out; omega)⟩
      unfold CqC at *
      split at h <;> first | exact h | exact absurd rfl hj
  · intro li a u hall hI
    obtain ⟨v, rfl, hv, hS⟩ := hI
    have e5 : At u g 97 (cs.set 6 (.int .u16 (numB [x0, x1] : Int))) := hv 5 (hall 5 (by decide))
    have E5 := Lib.hid e5
    have HS' := Lib.hid hS
    clear hv hall hS e5
    go_end0
    refine ⟨rfl, by rw [HX.out]; exact E5.out, F3.out.eq (HS'.out.1.block f F3.out.lt (by simp; omega)), T3.out.trans (Two.right HS'.out.1)⟩
def genC (r ep hw : Value) (o2 : Bool) (lt sq : Nat) (h : List UInt8) : List Value := [.bool true, .bool o2, r, ep, hw, .int .u64 (lt : Int), .int .u16 (sq : Int)] ++ h.map B8 ++ [.int .u64 0, .int .u64 0, .int .u16 0, .bool false]
def ClockOk (w0 w : World) (g f : Nat) (ep hw : Value) (T : Nat) (ds : List UInt8) (e : Ending) (w' : World) : Prop :=
  e = .returned (.tuple #[.int .u64 (T : Int), .int .u16 (numB (ds.take 2) : Int), .nilIface]) ∧ At w' g 97 (genC (rdV f) ep hw false T (numB (ds.take 2)) [0, 0, 0, 0, 0, 0]) ∧ FeedAt w0 w' f (ds.drop 2) ∧ Two w w' f g
set_option maxRecDepth 100000 in
theorem clock_yes (w0 w : World) (g f : Nat) (ep hw : Value) (sec nano : Int) (h1 : 0 ≤ sec) (h2 : sec < 5000000000) (h3 : 0 ≤ nano) (h4 : nano < 1000000000) (T : Nat) (hT : (T : Int) = 122192928000000000 + (sec * 1000000000 + nano) / 100) (ds : List UInt8) (hd : 2 ≤ ds.length) (hdl : ds.length ≤ 70000) (hg : At w g 97 (genB (rdV f) ep hw)) (hf : FeedAt w0 w f ds) (hfg : f ≠ g) (h0 : Below w0.heap.size w0 w) (f0 : w0.heap.size ≤ f) (g0 : w0.heap.size ≤ g) :
    Calls Try.prog 43 #[.pointer (some ⟨g, 0, none⟩), .agg (TimeV sec nano).toArray] w (ClockOk w0 w g f ep hw T ds) := by
  have hmf := Try.hmf
  have EP := Lib.hid (fun q w => epoch_any q sec nano h1 h2 h3 h4 w)
  rw [← hT] at EP
  have hTb : T < 1000000000000000000 := by omega
  have hTp : (0 : Int) < (T : Int) := by omega
  obtain ⟨tv, htv⟩ : ∃ tv, tv = TimeV sec nano := ⟨_, rfl⟩
  have HTS := Lib.hid (show (Try.prog.info? 63).map (·.size) = some tv.length by rw [htv]; exact Try.sizeT sec nano)
  rw [← htv] at EP ⊢
  obtain ⟨n, hn⟩ : ∃ n, n = numB (ds.take 2) := ⟨_, rfl⟩
  have HN := Lib.hid hn
  have HG := Lib.hid hg
  have HF := Lib.hid hf
  have H0 := Lib.hid h0
  have LG := Lib.hid hg.lt
  have LF := Lib.hid hf.lt
  clear hT htv hg hf h0 h1 h2 h3 h4 hn
  go_enter Try.func43, Try.ntmps43
  go_wp2_with (refine wpList_boxed rfl 52 (.tmp 0) rfl (.pointer (some ⟨g, 0, none⟩)) [.pointer (some ⟨g, 0, none⟩)] (by rfl) rfl ?_)
  intro w1 h1
  have H1 := Lib.hid h1
  clear h1
  go_wp2_with (refine wpList_boxed rfl 63 (.tmp 1) rfl (.agg tv.toArray) tv (by rfl) rfl ?_)
  intro w2 h2
  have H2 := Lib.hid h2
  clear h2
  go_wp2_with (refine wpList_var rfl 58 rfl .nilIface [.nilIface] (fun w => by kernel_rfl) rfl ?_)
  intro w3 h3
  have H3 := Lib.hid h3
  have s1 := Lib.hid (show w1.heap.size = w.heap.size + 1 from H1.out.size)
  have s2 := Lib.hid (show w2.heap.size = w1.heap.size + 1 from H2.out.size)
  have s3 := Lib.hid (show w3.heap.size = w2.heap.size + 1 from h3.size)
  have gw := Lib.hid (show w.grownBy w3 none from grown_trans' (grown_trans' H1.out.grown H2.out.grown) h3.grown)
  have P3 := Lib.hid (h3.keep (H2.out.keep H1.out.at_))
  have V3 := Lib.hid (h3.keep H2.out.at_)
  have E3 := Lib.hid h3.at_
  have G3 := Lib.hid (h3.keep (H2.out.keep (H1.out.keep HG.out)))
  have F3 := Lib.hid (HF.out.eq (gw.out.block f HF.out.lt (by simp)))
  have Z3 := Lib.hid (show Below w0.heap.size w0 w3 from H0.out.grown gw.out H0.out.size (by simp))
  clear h3
  obtain ⟨pp, hpp⟩ : ∃ pp, pp = w.heap.size := ⟨_, rfl⟩
  obtain ⟨pt, hpt⟩ : ∃ pt, pt = w1.heap.size := ⟨_, rfl⟩
  obtain ⟨pe, hpe⟩ : ∃ pe, pe = w2.heap.size := ⟨_, rfl⟩
  have ePP := Lib.hid hpp
  have ePT := Lib.hid (show pt = w.heap.size + 1 by rw [hpt, s1.out])
  have ePE := Lib.hid (show pe = w.heap.size + 2 by rw [hpe, s2.out, s1.out])
  rw [← hpp] at P3
  rw [← hpt] at V3
  rw [← hpe] at E3
  rw [← hpp, ← hpt, ← hpe]
  clear hpp hpt hpe
  have k1 : w3.cell? ⟨pp, 0, none⟩ = some (.pointer (some ⟨g, 0, none⟩)) := P3.out.cell 0 (by simp)
  have k2 : w3.cell? ⟨g, 0, none⟩ = some (.bool false) := G3.out.cell 0 (by simp [genB])
  have k3 := G3.out.frozen 0
  go_wp2_with fail
  have P4 := PutB.setCell G3.out 0 (.bool true)
  generalize w3.setCell ⟨g, 0, none⟩ (.bool true) = w4 at P4 ⊢
  have g4 := P4.grown
  have G4 := Lib.hid P4.at_
  have F4 := Lib.hid (F3.out.eq (g4.block f F3.out.lt (by simp; omega)))
  have Z4 := Lib.hid (Z3.out.grown g4 Z3.out.size (by simp; omega))
  have Q4 := Lib.hid (P3.out.grown g4 (by simp; have := ePP.out; have := LG.out; omega))
  have V4 := Lib.hid (V3.out.grown g4 (by simp; have := ePT.out; have := LG.out; omega))
  have E4 := Lib.hid (E3.out.grown g4 (by simp; have := ePE.out; have := LG.out; omega))
  have T4 := Lib.hid (show Two w w4 f g from (Two.none gw.out).trans (Two.right g4))
  have NP := Lib.hid (show pp ≠ f ∧ pe ≠ f ∧ pp ≠ g ∧ pe ≠ g ∧ pp ≠ pe ∧ pt ≠ f ∧ pt ≠ g by have := ePP.out; have := ePE.out; have := ePT.out; have := LG.out; have := LF.out; omega)
  clear P4 g4 k1 k2 k3
  refine (clock1_yes w0 w4 g f pp pe _ (by simp [genB]) (by simp [genB]) ds hd hdl G4.out F4.out hfg Q4.out E4.out NP.out.1 NP.out.2.1 NP.out.2.2.1 NP.out.2.2.2.1 NP.out.2.2.2.2.1 Z4.out f0 g0).mono ?_
  rintro e w5 ⟨rfl, g5, f5, t5⟩
  rw [← HN.out] at g5
  have T5 := Lib.hid t5
  have G5 := Lib.hid g5
  have F5 := Lib.hid f5
  have Q5 := Lib.hid (t5.at_ Q4.out NP.out.1 NP.out.2.2.1)
  have V5 := Lib.hid (t5.at_ V4.out NP.out.2.2.2.2.2.1 NP.out.2.2.2.2.2.2)
  have E5 := Lib.hid (t5.at_ E4.out NP.out.2.1 NP.out.2.2.2.1)
  have k1 : w5.cell? ⟨pp, 0, none⟩ = some (.pointer (some ⟨g, 0, none⟩)) := Q5.out.cell 0 (by simp)
  have k2 : w5.cell? ⟨pe, 0, none⟩ = some .nilIface := E5.out.cell 0 (by simp)
  clear g5 f5 t5
  go_wp2_with (refine wpList_get rfl 63 (.tmp 3) rfl pt (by rfl) 63 tv _ V5.out Try.underlying63 rfl HTS.out ?_)
  refine (EP.out (some ⟨g, 0, none⟩) w5).mono ?_
  rintro e w6 ⟨rfl, b6⟩
  have B6 := Lib.hid b6
  have G6 := Lib.hid (G5.out.below b6 G5.out.lt)
  have F6 := Lib.hid (F5.out.eq (b6.block f F5.out.lt))
  have Q6 := Lib.hid (Q5.out.below b6 Q5.out.lt)
  have k1 : w6.cell? ⟨pp, 0, none⟩ = some (.pointer (some ⟨g, 0, none⟩)) := Q6.out.cell 0 (by simp)
  have k2 : w6.cell? ⟨g, 5, none⟩ = some (.int .u64 0) := G6.out.cell 5 (by simp [genB])
  have k3 := G6.out.frozen 5
  clear b6
  go_wp2_with fail
  have P7 := PutB.setCell G6.out 5 (.int .u64 (T : Int))
  generalize w6.setCell ⟨g, 5, none⟩ (.int .u64 (T : Int)) = w7 at P7 ⊢
  have G7 : At w7 g 97 (genC (rdV f) ep hw false T n [0, 0, 0, 0, 0, 0]) := P7.at_
  have HG7 := Lib.hid G7
  have k4 : w7.cell? ⟨pp, 0, none⟩ = some (.pointer (some ⟨g, 0, none⟩)) := (P7.keep Q6.out NP.out.2.2.1).cell 0 (by simp)
  have k5 : w7.cell? ⟨g, 6, none⟩ = some (.int .u16 (n : Int)) := G7.cell 6 (by simp [genC])
  have F7 := Lib.hid (F6.out.eq (P7.grown.block f F6.out.lt (by simp; omega)))
  have T7 := Lib.hid (show Two w w7 f g from ((T4.out.trans T5.out).trans (Two.none (grown_of_below B6.out _))).trans (Two.right P7.grown))
  clear P7 G7 k1 k2 k3
  go_quiet (fail)
  go_wp2
  go_ret3
  refine ⟨by rw [← HN.out]; rfl, by rw [← HN.out]; exact HG7.out.drewN _, F7.out, T7.out.drewN _⟩
end Go.Proofs.Ytbojjpgekbljfaa
