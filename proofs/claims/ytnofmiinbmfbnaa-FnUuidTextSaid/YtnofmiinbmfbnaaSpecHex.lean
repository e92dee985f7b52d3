/-
  spec.Place over hexadecimal digits, spec.hex of thirty-two digits, spec.plain.
-/
import Derived.Test.YtnofmiinbmfbnaaLower
import Derived.Test.YtnofmiinbmfbnaaSpecUuid
import Derived.IntWalk
namespace Go.Proofs.Ytnofmiinbmfbnaa
open Go.RowKit
set_option linter.unusedVariables false
abbrev W16 : Value := .string ⟨#[48, 49, 50, 51, 52, 53, 54, 55, 56, 57, 97, 98, 99, 100, 101, 102]⟩
theorem at16w (n : Nat) (h : n < 16) (w : World) : (Instr.index 9 W16 (.int .i64 (n : Int))).run Try.prog w = .ok (.int .u8 ((dig16 n).toNat : Int)) w := at16 n h w
def plN (c : UInt8) : Nat := (List.range 16).foldr (fun n acc => if dig16 n = c then n else acc) 255
theorem plN_dig (k : Nat) (h : k < 16) : plN (dig16 k) = k := by
  have : ∀ k : Fin 16, plN (dig16 k.val) = k.val := by decide +kernel
  exact this ⟨k, h⟩
theorem foldr_none16 (c : UInt8) : ∀ l : List Nat, (∀ n ∈ l, dig16 n ≠ c) → l.foldr (fun n acc => if dig16 n = c then n else acc) 255 = 255
  | [], _ => rfl
  | n :: l, h => by rw [List.foldr_cons, foldr_none16 c l fun m hm => h m (by simp [hm]), if_neg (h n (by simp))]
theorem plN_none (c : UInt8) (h : ∀ j, j < 16 → dig16 j ≠ c) : plN c = 255 := foldr_none16 c _ fun n hn => h n (by simpa using hn)
def plI (c : UInt8) : Int := if plN c = 255 then -1 else (plN c : Int)
set_option maxRecDepth 100000 in
theorem place16_any (c : UInt8) (w : World) : Calls Try.prog 62 #[W16, .int .u8 (c.toNat : Int)] w fun e w' => e = .returned (.int .i64 (plI c)) ∧ w' = w := by
  go_enter Try.func62, Try.ntmps62
  go_wp2
  go_loop [8] (fun i => ∃ k : Nat, k ≤ 16 ∧ i = .int .i64 (k : Int) ∧ ∀ j, j < k → dig16 j ≠ c) (fun i => 16 - (intOf i).toNat)
  case atStart => exact ⟨0, by omega, rfl, fun j hj => by omega⟩
  case round =>
    obtain ⟨k, hk, rfl, hno⟩ := hrel
    by_cases hlt : k < 16
    · have ix := at16w k hlt
      have NO := Lib.hid hno
      clear hno
      by_cases he : dig16 k = c
      · have e1 := plN_dig k hlt
        rw [he] at e1 ix
        have E1 := Lib.hid (show plI c = (k : Int) by rw [plI, e1, if_neg (by omega)])
        clear e1 he
        go_wp2
        go_ret
        exact ⟨by rw [E1.out]; rfl, rfl⟩
      · obtain ⟨d, hd⟩ : ∃ d, d = dig16 k := ⟨_, rfl⟩
        rw [← hd] at ix he
        have t1 : ((d.toNat : Int) == (c.toNat : Int)) = false := by
          rw [beq_eq_false_iff_ne]; intro h; exact he (UInt8.toNat_inj.1 (by omega))
        have HD := Lib.hid hd
        have HE := Lib.hid he
        clear he hd
        go_wp2
        go_round
        case rel => exact ⟨k + 1, by omega, by go_num, fun j hj => by
          by_cases h : j < k
          · exact NO.out j h
          · obtain rfl : j = k := by omega
            rw [← HD.out]; exact HE.out⟩
        case measure => simp [intOf]; omega
    · obtain rfl : k = 16 := by omega
      have E1 := Lib.hid (show plI c = -1 by rw [plI, plN_none c hno, if_pos rfl])
      clear hno hlt hk
      go_wp2
      go_ret
      exact ⟨by rw [E1.out]; rfl, rfl⟩
theorem plI_low (c : UInt8) : plI (lowC c) = if hexN c = 255 then -1 else (hexN c : Int) :=
  forall_u8 (p := fun c => plI (lowC c) = if hexN c = 255 then -1 else (hexN c : Int)) (by decide +kernel) c
def HexPost (r : Option (List UInt8)) (w : World) (e : Ending) (w' : World) : Prop :=
  (∀ out, r = some out → (∃ v, e = .returned (.tuple #[v, .bool true]) ∧ NewBytes w w' v out) ∧ Below w.heap.size w w') ∧
  (r = none → (∃ v, e = .returned (.tuple #[v, .bool false])) ∧ Below w.heap.size w w')
theorem HexPost.yes {r : Option (List UInt8)} {w : World} {e : Ending} {w' : World} (out : List UInt8) (h : r = some out) (v : Value) (h1 : e = .returned (.tuple #[v, .bool true])) (h2 : NewBytes w w' v out) (h3 : Below w.heap.size w w') : HexPost r w e w' :=
  ⟨(fun o ho => by rw [h] at ho; injection ho with ho; subst ho; exact ⟨⟨v, h1, h2⟩, h3⟩), (fun h' => by rw [h] at h'; cases h')⟩
theorem HexPost.no {r : Option (List UInt8)} {w : World} {e : Ending} {w' : World} (h : r = none) (v : Value) (h1 : e = .returned (.tuple #[v, .bool false])) (h3 : Below w.heap.size w w') : HexPost r w e w' :=
  ⟨(fun o ho => by rw [h] at ho; cases ho), fun _ => ⟨⟨v, h1⟩, h3⟩⟩
theorem getD_map_low (l : List UInt8) (j : Nat) (h : j < l.length) : (l.map lowC).getD j 0 = lowC (l.getD j 0) := by simp [List.getD, h]
theorem str_index (S : ByteArray) (j : Nat) (h : j < S.data.toList.length) (w : World) : (Instr.index 9 (.string S) (.int .i64 (j : Int))).run Try.prog w = .ok (.int .u8 ((S.data.toList.getD j 0).toNat : Int)) w := by
  have hs : j < S.size := by simpa using h
  have hr := run_index_string (P := Try.prog) (w := w) 9 S .i64 (j : Int) Try.underlying9
  rw [hr]
  simp [hs, List.getD, ByteArray.getElem_eq_getElem_data]
end Go.Proofs.Ytnofmiinbmfbnaa
