/-
  UnmarshalText of the package xid.
-/
import Derived.Test.YtppcpidlnpencaaDecodeN
import Derived.Test.YtppcpidlnpencaaReadLaw
import Derived.Test.YtppcpidlnpencaaXids
namespace Go.Proofs.Ytppcpidlnpencaa
open Go.RowKit
set_option linter.unusedVariables false
def readOk (l : List UInt8) : Bool := decide (l.length = 20) && l.all okDigit && decide (decN (l.getD 19 0) % 16 = 0)
def readB (l : List UInt8) : List UInt8 := match l with
  | [c0, c1, c2, c3, c4, c5, c6, c7, c8, c9, c10, c11, c12, c13, c14, c15, c16, c17, c18, c19] => decL (decN c0) (decN c1) (decN c2) (decN c3) (decN c4) (decN c5) (decN c6) (decN c7) (decN c8) (decN c9) (decN c10) (decN c11) (decN c12) (decN c13) (decN c14) (decN c15) (decN c16) (decN c17) (decN c18) (decN c19)
  | _ => []
theorem len20 (l : List UInt8) (h : l.length = 20) : ∃ c0 c1 c2 c3 c4 c5 c6 c7 c8 c9 c10 c11 c12 c13 c14 c15 c16 c17 c18 c19, l = [c0, c1, c2, c3, c4, c5, c6, c7, c8, c9, c10, c11, c12, c13, c14, c15, c16, c17, c18, c19] := by
  match l, h with
  | [c0, c1, c2, c3, c4, c5, c6, c7, c8, c9, c10, c11, c12, c13, c14, c15, c16, c17, c18, c19], _ => exact ⟨c0, c1, c2, c3, c4, c5, c6, c7, c8, c9, c10, c11, c12, c13, c14, c15, c16, c17, c18, c19, rfl⟩
theorem readB_length (l : List UInt8) (h : l.length = 20) : (readB l).length = 12 := by
  obtain ⟨c0, c1, c2, c3, c4, c5, c6, c7, c8, c9, c10, c11, c12, c13, c14, c15, c16, c17, c18, c19, rfl⟩ := len20 l h
  rfl
theorem okDigit_lt (c : UInt8) (h : okDigit c = true) : decN c < 32 ∧ dig32 (decN c) = c := by
  unfold okDigit at h
  rcases decN_cases c with h1 | h1
  · simp [h1] at h
  · exact h1
theorem allOk_get (l : List UInt8) (h : l.all okDigit = true) (i : Nat) (c : UInt8) (hi : l[i]? = some c) : okDigit c = true :=
  List.all_eq_true.1 h c (List.mem_of_getElem? hi)
theorem decode_yesL (g b o cc : Nat) (t : TypeId) (cs : List Value) (hcs : cs.length = 12) (l : List UInt8) (hl : l.length = 20) (ha : l.all okDigit = true) (hz : decN (l.getD 19 0) % 16 = 0) (w : World) (hg : At w g t cs) (hc : Cells12 w b o l) (hne : b ≠ g) (hlt : b < w.heap.size) :
    Calls Try.prog 58 #[.pointer (some ⟨g, 0, none⟩), .slice (some ⟨b, o, none⟩) 20 cc] w fun e w' => e = .returned (.bool true) ∧ At w' g t ((readB l).map B8) ∧ w.grownBy w' (some g) := by
  obtain ⟨c0, c1, c2, c3, c4, c5, c6, c7, c8, c9, c10, c11, c12, c13, c14, c15, c16, c17, c18, c19, rfl⟩ := len20 l hl
  have q := fun i c hi => (okDigit_lt c (allOk_get _ ha i c hi)).1
  exact decode_yes g b o cc t cs hcs c0 c1 c2 c3 c4 c5 c6 c7 c8 c9 c10 c11 c12 c13 c14 c15 c16 c17 c18 c19 _ _ _ _ _ _ _ _ _ _ _ _ _ _ _ _ _ _ _ _ rfl (q 0 c0 rfl) rfl (q 1 c1 rfl) rfl (q 2 c2 rfl) rfl (q 3 c3 rfl) rfl (q 4 c4 rfl) rfl (q 5 c5 rfl) rfl (q 6 c6 rfl) rfl (q 7 c7 rfl) rfl (q 8 c8 rfl) rfl (q 9 c9 rfl) rfl (q 10 c10 rfl) rfl (q 11 c11 rfl) rfl (q 12 c12 rfl) rfl (q 13 c13 rfl) rfl (q 14 c14 rfl) rfl (q 15 c15 rfl) rfl (q 16 c16 rfl) rfl (q 17 c17 rfl) rfl (q 18 c18 rfl) rfl (q 19 c19 rfl) hz w hg hc hne hlt
theorem decode_noL (g b o cc : Nat) (t : TypeId) (cs : List Value) (hcs : cs.length = 12) (l : List UInt8) (hl : l.length = 20) (ha : l.all okDigit = true) (hz : decN (l.getD 19 0) % 16 ≠ 0) (w : World) (hg : At w g t cs) (hc : Cells12 w b o l) (hne : b ≠ g) (hlt : b < w.heap.size) :
    Calls Try.prog 58 #[.pointer (some ⟨g, 0, none⟩), .slice (some ⟨b, o, none⟩) 20 cc] w fun e w' => e = .returned (.bool false) ∧ (∃ ks, ks.length = 12 ∧ At w' g t ks) ∧ w.grownBy w' (some g) := by
  obtain ⟨c0, c1, c2, c3, c4, c5, c6, c7, c8, c9, c10, c11, c12, c13, c14, c15, c16, c17, c18, c19, rfl⟩ := len20 l hl
  have q := fun i c hi => (okDigit_lt c (allOk_get _ ha i c hi)).1
  exact decode_no g b o cc t cs hcs c0 c1 c2 c3 c4 c5 c6 c7 c8 c9 c10 c11 c12 c13 c14 c15 c16 c17 c18 c19 _ _ _ _ _ _ _ _ _ _ _ _ _ _ _ _ _ _ _ _ rfl (q 0 c0 rfl) rfl (q 1 c1 rfl) rfl (q 2 c2 rfl) rfl (q 3 c3 rfl) rfl (q 4 c4 rfl) rfl (q 5 c5 rfl) rfl (q 6 c6 rfl) rfl (q 7 c7 rfl) rfl (q 8 c8 rfl) rfl (q 9 c9 rfl) rfl (q 10 c10 rfl) rfl (q 11 c11 rfl) rfl (q 12 c12 rfl) rfl (q 13 c13 rfl) rfl (q 14 c14 rfl) rfl (q 15 c15 rfl) rfl (q 16 c16 rfl) rfl (q 17 c17 rfl) rfl (q 18 c18 rfl) rfl (q 19 c19 rfl) hz w hg hc hne hlt
def ErrBack (w : World) (g : Nat) (t : TypeId) (e : Ending) (w' : World) : Prop := (∃ T x, e = .returned (.iface T x)) ∧ (∃ ks : List Value, ks.length = 12 ∧ (∀ v ∈ ks, v.oneCell' = true) ∧ At w' g t ks) ∧ w.grownBy w' (some g)
def UnmPost (ok : Bool) (l : List UInt8) (w : World) (g : Nat) (t : TypeId) (e : Ending) (w' : World) : Prop :=
  (ok = true → e = .returned .nilIface ∧ At w' g t ((readB l).map B8) ∧ w.grownBy w' (some g)) ∧ (ok = false → ErrBack w g t e w')
theorem UnmPost.yes {ok : Bool} {l : List UInt8} {w : World} {g : Nat} {t : TypeId} {e : Ending} {w' : World} (h : ok = true) (h1 : e = .returned .nilIface) (h2 : At w' g t ((readB l).map B8)) (h3 : w.grownBy w' (some g)) : UnmPost ok l w g t e w' :=
  ⟨fun _ => ⟨h1, h2, h3⟩, (fun h' => by rw [h] at h'; cases h')⟩
theorem UnmPost.no {ok : Bool} {l : List UInt8} {w : World} {g : Nat} {t : TypeId} {e : Ending} {w' : World} (h : ok = false) (h1 : ErrBack w g t e w') : UnmPost ok l w g t e w' :=
  ⟨(fun h' => by rw [h] at h'; cases h'), fun _ => h1⟩
theorem wpList_build0 {P : Program} {ops : Array Oper} {rest : List Oper} {o : Oper} {a : Act} {w : World} {Q : Exit → Act → World → Prop} (hgd : o.guard = none) (t : TypeId) (ho : o.op = .build t #[]) (v : Value)
    (hrun : ∀ w, (Instr.build t #[]).run P w = .ok v w) (h : wpList P ops Q rest (a.put o.dst v) w) : wpList P ops Q (o :: rest) a w := by
  refine wpList_plain hgd fun K hK => ?_
  unfold Oper.wp execOp
  simp only [ho, Array.map_empty, Sem.run_bind, hrun, Result.andThen_ok, Sem.run_pure]
  exact hK _ _ h
theorem buildI (w : World) : (Instr.build 54 #[]).run Try.prog w = .ok (.agg (z12.map B8).toArray) w := by kernel_rfl
theorem okDigit_dec (c : UInt8) : (((decN c : Nat) : Int) == 255) = !okDigit c := by
  unfold okDigit
  rw [Bool.eq_iff_iff]
  simp
  omega
set_option maxRecDepth 100000 in
set_option maxHeartbeats 1000000 in
theorem unm_all (g : Nat) (cs : List Value) (hcs : cs.length = 12) (hc1 : ∀ v ∈ cs, v.oneCell' = true) (b o cc : Nat) (l : List UInt8) (hl : l.length = 20) (w : World) (hg : At w g 54 cs) (hc : Cells12 w b o l) (hne : b ≠ g) (hlt : b < w.heap.size) :
    Calls Try.prog 50 #[.pointer (some ⟨g, 0, none⟩), .slice (some ⟨b, o, none⟩) 20 cc] w (UnmPost (readOk l) l w g 54) := by
  have HL := Lib.hid hl
  have HG := Lib.hid hg
  have HC := Lib.hid hc
  have HN := Lib.hid hne
  have HLT := Lib.hid hlt
  have HCS := Lib.hid hcs
  have HC1 := Lib.hid hc1
  obtain ⟨ok, hok⟩ : ∃ ok, ok = readOk l := ⟨_, rfl⟩
  rw [← hok]
  have HOK := Lib.hid hok
  clear hl hg hc hne hlt hcs hok hc1
  go_enter Try.func50, Try.ntmps50
  go_wp2
  go_loop [13] (fun i => ∃ k : Nat, k ≤ 20 ∧ i = .int .i64 k ∧ ∀ j c, j < k → l[j]? = some c → okDigit c = true) (fun i => 20 - (intOf i).toNat)
  case atStart => exact ⟨0, by omega, rfl, fun j _ hj => by omega⟩
  case round =>
    obtain ⟨k, hk, rfl, hno⟩ := hrel
    by_cases hlt : k < 20
    · have NO := Lib.hid hno
      clear hno
      have lk : k < l.length := by rw [HL.out]; exact hlt
      obtain ⟨x, ex⟩ : ∃ x, x = l[k] := ⟨_, rfl⟩
      have lx : l[k]? = some x := by rw [ex]; simp [lk]
      have cx : w.cell? ⟨b, o + k, none⟩ = some (.int .u8 (x.toNat : Int)) := HC.out k x lx
      have LX := Lib.hid lx
      have hd := okDigit_dec x
      have p1 : (k : Int) < 20 := by omega
      clear lk ex lx
      cases hx : okDigit x with
      | false =>
        rw [hx] at hd
        obtain ⟨d, hdd⟩ : ∃ d : Nat, d = decN x := ⟨_, rfl⟩
        rw [← hdd] at hd
        have HX := Lib.hid hx
        have HDD := Lib.hid hdd
        have t1 : (((d : Nat) : Int) == 255) = true := by simpa using hd
        have E0 := Lib.hid (show ok = false by
          rw [HOK.out]; unfold readOk
          have : l.all okDigit = false := by
            rw [List.all_eq_false]; exact ⟨x, List.mem_of_getElem? LX.out, by rw [HX.out]; simp⟩
          rw [this]; simp)
        clear hx hd hdd
        go_wp2_with fail
        refine (dec_any x _).mono ?_
        rw [← HDD.out]
        rintro e w1 ⟨rfl, rfl⟩
        go_wp2
        go_ret
        exact UnmPost.no E0.out ⟨⟨_, _, rfl⟩, ⟨cs, HCS.out, HC1.out, HG.out⟩, World.grownBy.refl _ _⟩
      | true =>
        rw [hx] at hd
        obtain ⟨d, hdd⟩ : ∃ d : Nat, d = decN x := ⟨_, rfl⟩
        rw [← hdd] at hd
        have HX := Lib.hid hx
        have HDD := Lib.hid hdd
        have t1 : (((d : Nat) : Int) == 255) = false := by simpa using hd
        clear hx hd hdd
        go_wp2_with fail
        refine (dec_any x _).mono ?_
        rw [← HDD.out]
        rintro e w1 ⟨rfl, rfl⟩
        go_wp2
        go_round
        case rel => exact ⟨k + 1, by omega, by go_num, fun j c hj hc => by
          by_cases h : j < k
          · exact NO.out j c h hc
          · obtain rfl : j = k := by omega
            rw [LX.out] at hc
            injection hc with hc
            rw [← hc]; exact HX.out⟩
        case measure => simp [intOf]; omega
    · obtain rfl : k = 20 := by omega
      have hall : l.all okDigit = true := by
        rw [List.all_eq_true]
        intro c hc
        obtain ⟨j, hj, rfl⟩ := List.getElem_of_mem hc
        exact hno j _ (by have := HL.out; omega) (by simp)
      have HA := Lib.hid hall
      clear hno hlt hk hall
      by_cases hz : decN (l.getD 19 0) % 16 = 0
      · have E1 := Lib.hid (show ok = true by rw [HOK.out]; unfold readOk; rw [HL.out, HA.out, decide_eq_true hz]; rfl)
        have HZ := Lib.hid hz
        clear hz
        go_wp2_with fail
        refine (decode_yesL g b o cc 54 cs HCS.out l HL.out HA.out HZ.out w HG.out HC.out HN.out HLT.out).mono ?_
        rintro e w1 ⟨rfl, a1, g1⟩
        have A1 := Lib.hid a1
        have G1 := Lib.hid g1
        clear a1 g1
        go_wp2
        go_ret
        exact UnmPost.yes E1.out rfl A1.out G1.out
      · have E1 := Lib.hid (show ok = false by rw [HOK.out]; unfold readOk; rw [decide_eq_false hz]; simp)
        have HZ := Lib.hid hz
        clear hz
        go_wp2_with fail
        refine (decode_noL g b o cc 54 cs HCS.out l HL.out HA.out HZ.out w HG.out HC.out HN.out HLT.out).mono ?_
        rintro e w1 ⟨rfl, ⟨ks, lk, a1⟩, g1⟩
        have A1 := Lib.hid a1
        have G1 := Lib.hid g1
        have LK := Lib.hid lk
        clear a1 g1 lk
        obtain ⟨Z, hZ⟩ : ∃ Z, Z = z12.map B8 := ⟨_, rfl⟩
        have bz : ∀ w, (Instr.build 54 #[]).run Try.prog w = .ok (.agg Z.toArray) w := hZ ▸ buildI
        have HZ1 := Lib.hid (show ∀ v ∈ Z, v.oneCell' = true from hZ ▸ B8_one z12)
        have HZL := Lib.hid (show Z.length = 12 by simp [hZ, z12])
        have HZS := Lib.hid (show (Try.prog.info? 54).map (·.size) = some Z.length by rw [HZL.out]; exact Try.sizeI)
        clear hZ
        go_wp2_with (first | (refine wpList_build0 rfl 54 rfl (.agg Z.toArray) bz ?_) | (refine wpList_put rfl 54 (.tmp 28) (.tmp 27) rfl g Z (by rfl) (by rfl) 54 ks A1.out HZS.out (by rw [LK.out, HZL.out]) HZ1.out ?_))
        intro w2 h2
        have H2 := Lib.hid h2
        clear h2
        go_wp2
        go_ret
        exact UnmPost.no E1.out ⟨⟨_, _, rfl⟩, ⟨Z, HZL.out, HZ1.out, H2.out.at_⟩, grown_trans' G1.out H2.out.grown⟩
theorem unm_len (A : Option Addr) (n c g : Nat) (hn : n ≠ 20) (w : World) :
    Calls Try.prog 50 #[.pointer (some ⟨g, 0, none⟩), .slice A n c] w fun e w' => (∃ T x, e = .returned (.iface T x)) ∧ w' = w := by
  have t1 : ((n : Int) != 20) = true := by rw [bne_iff_ne]; omega
  go_enter Try.func50, Try.ntmps50
  go_wp2
  go_ret
  exact ⟨⟨_, _, rfl⟩, rfl⟩
end Go.Proofs.Ytppcpidlnpencaa
