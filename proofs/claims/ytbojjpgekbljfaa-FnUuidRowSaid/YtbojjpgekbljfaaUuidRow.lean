/-
  The thin package's UuidRow.
-/
import Derived.Test.YtbojjpgekbljfaaRowS
import Derived.Test.YtbojjpgekbljfaaList
import Derived.Test.YtbojjpgekbljfaaTold
namespace Go.Proofs.Ytbojjpgekbljfaa
open Go.RowKit
set_option linter.unusedVariables false
theorem InB.two {w w' : World} {base f g : Nat} {tf tg : TypeId} {cf cg : List Value} {v : Value} {L : List UInt8} (h : InB w base v L) (t : Two w w' f g) (hf : At w f tf cf) (hg : At w g tg cg) (n1 : tf ≠ 5) (n2 : tg ≠ 5) : InB w' base v L := by
  obtain ⟨k, cap, rest, rfl, h1, h2⟩ := h
  refine ⟨k, cap, rest, rfl, h1, t.at_ h2 (fun e => n1 ?_) (fun e => n2 ?_)⟩
  · subst e; exact hf.type h2
  · subst e; exact hg.type h2
theorem RowsB.two {w w' : World} {base f g : Nat} {tf tg : TypeId} {cf cg : List Value} {v : Value} {n : Nat} {Ls : List (List UInt8)} (h : RowsB w base v n Ls) (t : Two w w' f g) (hf : At w f tf cf) (hg : At w g tg cg) (n1 : tf ≠ 5) (n2 : tg ≠ 5) (m1 : tf ≠ 22) (m2 : tg ≠ 22) : RowsB w' base v n Ls := by
  obtain ⟨vs, ⟨a1, a2⟩, h2, h3⟩ := h
  refine ⟨vs, ⟨a1, ?_⟩, h2, fun j u L hu hL => (h3 j u L hu hL).two t hf hg n1 n2⟩
  rcases a2 with ⟨e, e0⟩ | ⟨k, cap, cur, e, hb, hk, r⟩
  · exact .inl ⟨e, e0⟩
  · have hk' : At w k 22 cur.toList := hk
    refine .inr ⟨k, cap, cur, e, hb, ?_, r⟩
    exact t.at_ hk' (fun e => m1 (by subst e; exact hf.type hk')) (fun e => m2 (by subst e; exact hg.type hk'))
theorem FeedAt.cells {w0 w : World} {f : Nat} {ds : List UInt8} (h : FeedAt w0 w f ds) : ∃ cs, At w f 78 cs := by
  obtain ⟨A, n, c, h1, -⟩ := h
  exact ⟨_, h1⟩
theorem run_mk6 (u : World) : (Instr.makeSlice 22 (.int .i64 6) (.int .i64 6)).run Try.prog u = .ok (.slice (some ⟨u.heap.size, 0, none⟩) 6 6) (u.alloc (.cells ((List.replicate 6 (0 : UInt8)).map B8).toArray 5)) := by
  have e : madeCells #[Value.int .u8 0] 6 = ((List.replicate 6 (0 : UInt8)).map B8).toArray := by kernel_rfl
  rw [← e]; exact run_make_row' 22 5 (.int .u8 0) 1 Try.underlying22 Try.info8 rfl .i64 .i64 6 (by omega) (by omega) u
theorem world_build2 (A : Option Addr) (k c : Nat) (w : World) : (Instr.build 51 #[(2, .slice A k c)]).run Try.prog w = .ok (.agg (WorB 0 0 A k c).toArray) w := by kernel_rfl
theorem take8' (ds : List UInt8) (h : 8 ≤ ds.length) : ds.take 8 = ds.getD 0 0 :: (ds.drop 1).take 7 := by
  match ds, h with
  | a :: l, _ => rfl
def RowOk (Ls : List (List UInt8)) (n : Nat) (w : World) (e : Ending) (w' : World) : Prop := ∃ v, e = .returned (.tuple #[v, .bool true]) ∧ RowsB w' w.heap.size v n Ls ∧ Below w.heap.size w w'
def ToldI (bs : List UInt8) (w : World) (e : Ending) (w' : World) : Prop := ∃ v, e = .returned (.tuple #[v, .bool true]) ∧ InB w' w.heap.size v bs ∧ Below w.heap.size w w'
set_option maxRecDepth 100000 in
theorem told_in (bs : List UInt8) (hbs : bs.length = 16) (w : World) : Calls Try.prog 25 #[.agg (bs.map B8).toArray, .nilIface] w (ToldI bs w) := by
  have HL := Lib.hid hbs
  clear hbs
  go_enter Try.func25, Try.ntmps25
  go_wp2_with (refine wpList_boxed rfl 56 (.tmp 0) rfl (.agg (bs.map B8).toArray) (bs.map B8) (by rfl) rfl ?_)
  intro w1 h1
  have H1 := Lib.hid h1
  clear h1
  have HO := Lib.hid (own_empty w1 5 w1.heap.size (Nat.le_refl _))
  have HB := Lib.hid ((H1.out.at_.byt).below (B := w1.heap.size) ((Below.refl _ _).alloc (Nat.le_refl _) (.cells #[] 5)) (Nat.le_refl _))
  go_wp2_with (refine wpList_appB rfl (.tmp 8) (.tmp 9) 22 rfl w1.heap.size 5 Try.underlying22 Try.info8 _ 0 [] (by rfl) HO.out (some ⟨w.heap.size, 0, none⟩) 16 16 bs (by rfl) HB.out HL.out (by simp) (by omega) (by simp) ?_)
  intro v' w2 h2 h3
  have H2 := Lib.hid h2
  have H3 := Lib.hid h3
  clear h2 h3
  go_wp2
  go_ret2
  obtain ⟨_, g, cap, r, e1, e2, e3⟩ := own_at (bs := bs) H2.out (by omega)
  refine ⟨v', rfl, ⟨g, cap, r, by rw [e1, HL.out], by have := H1.out.size; omega, e3⟩, ?_⟩
  exact ((H1.out.below (Below.refl _ _) (Nat.le_refl _)).alloc (by have := H1.out.size; omega) _).grown H3.out (by have := H1.out.size; simp; omega) (by have := H1.out.size; simp [Value.ownBlock]; omega)
set_option maxRecDepth 100000 in
set_option maxHeartbeats 1000000 in
theorem uuidRow_any (ts : List Nat) (n : Nat) (hn : ts.length = n) (h12 : n ≤ 12) (hs : ∀ j, ts.getD j 0 ≤ 4102444800000) (T : Option Addr) (cT : Nat) (A : Option Addr) (m c : Nat) (ds : List UInt8) (hl : ds.length = m) (hm : 400 ≤ m) (hm2 : m ≤ 1000) (hc : A = none → c = 0) (hmc : m ≤ c) (w : World)
    (hT : I64s w T (ts.map fun (s : Nat) => (s : Int))) (hb : Byt w A ds) :
    Calls Try.prog 22 #[.slice T n cT, .slice A m c] w (RowOk (rowS ts (s0 ds) n) n w) := by
  have HN := Lib.hid hn
  have HS := Lib.hid hs
  have HT := Lib.hid hT
  have H12 := Lib.hid h12
  have ni : (n : Int) ≤ 12 := by omega
  have M := Lib.hid (fun q w' => maker_any q A m c ds hl hc hmc w w' hb)
  have HL := Lib.hid hl
  have HM := Lib.hid (And.intro hm hm2)
  have mk := run_mk6 w
  have nb := NewB.alloc w 5 ((List.replicate 6 (0 : UInt8)).map B8)
  generalize w.alloc (.cells ((List.replicate 6 (0 : UInt8)).map B8).toArray 5) = w1 at nb mk
  have NB := Lib.hid nb
  clear nb hn hs hT h12 hl hc hb hm hm2
  go_enter Try.func22, Try.ntmps22
  go_wp2_with (first
    | (refine wpList_buildC rfl 51 _ #[(2, .slice (some ⟨w.heap.size, 0, none⟩) 6 6)] rfl (by rfl) (.agg (WorB 0 0 (some ⟨w.heap.size, 0, none⟩) 6 6).toArray) (world_build2 _ _ _) ?_)
    | (refine wpList_boxed rfl 51 (.tmp 14) rfl (.agg (WorB 0 0 (some ⟨w.heap.size, 0, none⟩) 6 6).toArray) (WorB 0 0 (some ⟨w.heap.size, 0, none⟩) 6 6) (by rfl) rfl ?_))
  intro w2 h2
  obtain ⟨q, hq⟩ : ∃ q, q = w1.heap.size := ⟨_, rfl⟩
  have Q2 := Lib.hid (show At w2 q 51 (WorB 0 0 (some ⟨w.heap.size, 0, none⟩) 6 6) by rw [hq]; exact h2.at_)
  have SQ := Lib.hid (show w2.heap.size = q + 1 ∧ w.heap.size ≤ q by rw [hq]; exact ⟨h2.size, by have := NB.out.size; omega⟩)
  have B2 := Lib.hid (h2.below (NB.out.below (Below.refl w.heap.size w) (Nat.le_refl _)) (by have := NB.out.size; omega))
  rw [← hq]
  clear h2 hq mk
  go_wp2_with fail
  refine (M.out q w2).mono ?_
  rintro e w3 ⟨g, f, rfl, hg, hf, hfg, ag, af, b3⟩
  have s1 := SQ.out
  have e1 : q ≠ g := by omega
  have e2 : q ≠ f := by omega
  have e5 : At w3 q 51 (WorB 0 0 (some ⟨w.heap.size, 0, none⟩) 6 6) := Q2.out.below b3 (by omega)
  have S3 := Lib.hid (St.mk (w0 := w) (w := w3) (lr := 0) (lm := 0) (ct := 0) (sd := false) (by rw [← genB_7]; exact ag) af hfg e5 e1 e2 (B2.out.trans (b3.mono B2.out.size)) (by omega) (by omega) s1.2)
  clear hg hf hfg ag af b3 s1 e1 e2 e5
  have A4 := Lib.hid (show Below w3.heap.size w3 (w3.alloc (.cells #[] 22)) from (Below.refl _ _).alloc (Nat.le_refl _) _)
  have S4 := Lib.hid (S3.out.below A4.out)
  have R4 := Lib.hid (RowsB.empty w3 w.heap.size S3.out.h0.size)
  have B4 := Lib.hid S4.out.h0
  go_wp2
  go_loopw [8, 22] (fun v i wr => ∃ k lr : Nat, k ≤ n ∧ i = .int .i64 k ∧ RowsB wr w.heap.size v k (rowS ts (s0 ds) k) ∧ lr < 281474976710656 ∧ (∃ (sc nn : Int), St w wr g q f sc nn (some ⟨w.heap.size, 0, none⟩) 6 6 lr (stN ts (s0 ds) k).lm (stN ts (s0 ds) k).ct (stN ts (s0 ds) k).sd (stN ts (s0 ds) k).ds)) (fun _ i _ => n - (intOf i).toNat)
  case atStart => exact ⟨0, 0, by omega, rfl, R4.out, by omega, 0, 0, S4.out⟩
  case round =>
    obtain ⟨k, lr, hk, rfl, hrow, hlr, sc, nn, hst⟩ := hrel
    by_cases hlt : k < n
    · have lk : k < ts.length := by rw [HN.out]; exact hlt
      obtain ⟨t, et⟩ : ∃ t, t = ts.getD k 0 := ⟨_, rfl⟩
      have ht : t ≤ 4102444800000 := by rw [et]; exact HS.out k
      obtain ⟨b, off, hTe, hlb, hcell⟩ := (HT.out.below hst.h0 (Nat.le_refl _)) (by simp; omega)
      subst hTe
      have cx : wr.cell? ⟨b, off + k, none⟩ = some (.int .i64 (t : Int)) := by
        rw [hcell k (by simpa using lk), et]; simp [List.getD, lk]
      have rs := rowS_succ ts (s0 ds) k
      rw [← et] at rs
      have sn : stN ts (s0 ds) (k + 1) = (stN ts (s0 ds) k).nxt t := by rw [et]; rfl
      obtain ⟨o1, o2, o3, o4⟩ := stN_ok ts ds 4102444800000 HS.out k
      obtain ⟨sk, hsk⟩ : ∃ sk, sk = stN ts (s0 ds) k := ⟨_, rfl⟩
      rw [← hsk] at rs sn o1 o2 o3 o4 hst
      have q0 := hst.wor.cell 0 (by simp [WorB])
      have q1 := hst.wor.cell 1 (by simp [WorB])
      have f0 := hst.wor.frozen 0
      have f1 := hst.wor.frozen 1
      have ki : (k : Int) < (n : Int) := by omega
      have P := PutB.setCell hst.wor 0 (.int .i64 ((t : Int) / 1000))
      have P2 := P.trans (PutB.setCell P.at_ 1 (.int .i64 ((t : Int) % 1000 * 1000000)))
      have RS := Lib.hid rs
      have SN := Lib.hid sn
      have O := Lib.hid (And.intro o1 (And.intro o2 (And.intro o3 o4)))
      have HR := Lib.hid hrow
      have ST := Lib.hid hst
      have LRb := Lib.hid hlr
      have PP := Lib.hid P2
      have Tb := Lib.hid ht
      have tn : (t : Int) ≤ 4102444800000 := by omega
      clear et hcell rs sn o1 o2 o3 o4 hrow hst hlr P P2 ht lk hsk
      go_wp2_with fail
      have P5 := PP.out
      generalize (wr.setCell ⟨q, 0, none⟩ (.int .i64 ((t : Int) / 1000))).setCell ⟨q, 1, none⟩ (.int .i64 ((t : Int) % 1000 * 1000000)) = w5 at P5 ⊢
      have S5 := Lib.hid (show St w w5 g q f ((t : Int) / 1000) ((t : Int) % 1000 * 1000000) (some ⟨w.heap.size, 0, none⟩) 6 6 lr sk.lm sk.ct sk.sd sk.ds from
        ⟨P5.keep ST.out.at_ (Ne.symm ST.out.hqg), ST.out.feed.eq (P5.grown.block f ST.out.feed.lt (by simp; exact Ne.symm ST.out.hqf)), ST.out.hfg, P5.at_, ST.out.hqg, ST.out.hqf, P5.below ST.out.h0 ST.out.h0.size ST.out.q0, ST.out.f0, ST.out.g0, ST.out.q0⟩)
      have R5 := Lib.hid (HR.out.grown P5.grown ST.out.wor (by decide) (by decide))
      clear P5 PP
      have dl := VS.d_len sk t
      have ol := O.out
      have hmm := HM.out
      have hll := HL.out
      have hm12 := H12.out
      have mle := VS.m_le sk t (4102444800000 + k) ol.1 (by have := Tb.out; omega)
      have X := Lib.hid (row7 S5.out (by omega) (by have := Tb.out; omega) (by omega) (by omega) t (sk.m t) (sk.c t) (by omega) (VS.step sk t) (by omega) (VS.c_lt sk t) _ _ (take8' (sk.d t) (by omega)) (by omega) (by have := Tb.out; omega) (by omega) LRb.out (by have := ol.2.1; omega) (by omega) (by omega) (by omega))
      obtain ⟨R, hR⟩ : ∃ R, R = sk.out t := ⟨_, rfl⟩
      have LR := Lib.hid (show R.length = 16 by
        have l1 : (((sk.d t).drop 1).take 7).length = 7 := by rw [List.length_take, List.length_drop]; omega
        rw [hR]
        unfold VS.out v7B
        simp only [List.length_cons, l1])
      have RS2 := RS.out
      rw [← hR] at RS2
      have RS := Lib.hid RS2
      have X2 := X.out
      rw [show v7B (sk.m t) (sk.c t) ((sk.d t).getD 0 0) (((sk.d t).drop 1).take 7) = R from hR.symm] at X2
      have X := Lib.hid X2
      clear dl ol hmm hll hm12 mle hR RS2 X2
      refine X.out.mono ?_
      rintro e w6 ⟨rfl, s6, t6⟩
      have S6 := Lib.hid s6
      have R6 := Lib.hid (by
        obtain ⟨cf, hcf⟩ := S5.out.feed.cells
        exact R5.out.two t6 hcf S5.out.at_ (by decide) (by decide) (by decide) (by decide))
      clear s6 t6
      go_wp2_with fail
      refine (told_in R LR.out w6).mono ?_
      rintro e w7 ⟨v7, rfl, i7, b7⟩
      have S7 := Lib.hid (S6.out.below b7)
      have R7 := Lib.hid (R6.out.below b7)
      have I7 := Lib.hid (show InB w7 w.heap.size v7 R from (let ⟨g7, c7, r7, e, h1, h2⟩ := i7; ⟨g7, c7, r7, e, Nat.le_trans S6.out.h0.size h1, h2⟩))
      clear i7 b7
      have A8 := Lib.hid (show Below w7.heap.size w7 (w7.alloc (.cells #[v7] 22)) from (Below.refl _ _).alloc (Nat.le_refl _) _)
      have R8 := Lib.hid (R7.out.below A8.out)
      have I8 := Lib.hid (I7.out.below A8.out)
      have S8 := Lib.hid (S7.out.below A8.out)
      have D8 := Lib.hid (show (w7.alloc (.cells #[v7] 22)).cell? ⟨w7.heap.size, 0, none⟩ = some v7 from (NewB.alloc w7 22 [v7]).at_.cell 0 (by simp))
      obtain ⟨g7, c7, r7, ev, -, -⟩ := I7.out
      subst ev
      go_wp2_with (refine wpList_appRow rfl (.tmp 47) (.tmp 49) 43 rfl w.heap.size Try.underlying43 Try.infoS _ k _ (by rfl) R8.out w7.heap.size _ R (by rfl) D8.out I8.out (by have := ni; omega) S8.out.h0.size ?_)
      intro v9 w9 r9 b9 k9 z9
      rw [← RS.out] at r9
      have R9 := Lib.hid r9
      have F9 : FeedAt w w9 f ((sk.d t).drop 8) := by
        obtain ⟨A', n', c', h1, h2⟩ := S8.out.feed
        exact ⟨A', n', c', k9 _ _ _ (by decide) h1, h2⟩
      have S9 := Lib.hid (show St w w9 g q f ((t : Int) / 1000) ((t : Int) % 1000 * 1000000) (some ⟨w.heap.size, 0, none⟩) 6 6 t (sk.nxt t).lm (sk.nxt t).ct (sk.nxt t).sd (sk.nxt t).ds from
        ⟨k9 _ _ _ (by decide) S8.out.at_, F9, S8.out.hfg, k9 _ _ _ (by decide) S8.out.wor, S8.out.hqg, S8.out.hqf, b9 _ S8.out.h0, S8.out.f0, S8.out.g0, S8.out.q0⟩)
      have TB := Lib.hid (show t < 281474976710656 by have := Tb.out; omega)
      clear r9 b9 k9 z9 F9
      go_wp2
      go_roundw
      case rel => exact ⟨k + 1, t, by omega, by go_num, R9.out, TB.out, _, _, by rw [SN.out]; exact S9.out⟩
      case measure => simp [intOf]; omega
    · obtain rfl : k = n := by omega
      have HR := Lib.hid hrow
      have HBe := Lib.hid hst.h0
      clear hrow hst hlt hk
      go_wp2
      go_ret2
      exact ⟨_, rfl, HR.out, HBe.out⟩
end Go.Proofs.Ytbojjpgekbljfaa
