/-
  parseBytes of any text; Parse, FromString, and the thin package's UuidRead.
-/
import Derived.Test.YtnofmiinbmfbnaaParse32
import Derived.Test.YtnofmiinbmfbnaaParse34
import Derived.Test.YtnofmiinbmfbnaaParse38
import Derived.Test.YtnofmiinbmfbnaaParse41
import Derived.Test.YtnofmiinbmfbnaaParse45
import Derived.Test.YtnofmiinbmfbnaaFromBytes
import Derived.Lib.ConvBytes
namespace Go.Proofs.Ytnofmiinbmfbnaa
open Go.RowKit
set_option linter.unusedVariables false
theorem PPost.quiet {w : World} {g : Nat} {T : TypeId} {x : Value} {cur : List Value} (hcur : cur.length = 16) (h1 : ∀ v ∈ cur, v.oneCell' = true) (hg : At w g 63 cur) {r : Option (List UInt8)} (hr : r = none) : PPost r w g (.returned (.iface T x)) w :=
  PPost.no hr T x rfl cur hcur h1 hg (World.grownBy.refl _ _)
set_option maxRecDepth 100000 in
theorem parse_len (g h n c : Nat) (h32 : n ≠ 32) (h36 : n ≠ 36) (h34 : n ≠ 34) (h38 : n ≠ 38) (h41 : n ≠ 41) (h45 : n ≠ 45) (w : World) :
    Calls Try.prog 63 #[.slice (some ⟨h, 0, none⟩) n c, .pointer (some ⟨g, 0, none⟩)] w fun e w' => (∃ T x, e = .returned (.iface T x)) ∧ w = w' := by
  have t1 : ((n : Int) == 32) = false := by rw [beq_eq_false_iff_ne]; omega
  have t2 : ((n : Int) == 36) = false := by rw [beq_eq_false_iff_ne]; omega
  have t3 : ((n : Int) == 34) = false := by rw [beq_eq_false_iff_ne]; omega
  have t4 : ((n : Int) == 38) = false := by rw [beq_eq_false_iff_ne]; omega
  have t5 : ((n : Int) == 41) = false := by rw [beq_eq_false_iff_ne]; omega
  have t6 : ((n : Int) == 45) = false := by rw [beq_eq_false_iff_ne]; omega
  clear h32 h36 h34 h38 h41 h45
  go_enter Try.func63, Try.ntmps63
  go_wp2
  go_ret
  exact ⟨⟨_, _, rfl⟩, rfl⟩
set_option maxRecDepth 100000 in
theorem parse_braces (g h n c : Nat) (hn : n = 34 ∨ n = 38) (x0 x1 : UInt8) (w : World) (c0 : w.cell? ⟨h, 0, none⟩ = some (.int .u8 (x0.toNat : Int))) (c1 : w.cell? ⟨h, n - 1, none⟩ = some (.int .u8 (x1.toNat : Int))) (hb : x0 ≠ 123 ∨ x1 ≠ 125) :
    Calls Try.prog 63 #[.slice (some ⟨h, 0, none⟩) n c, .pointer (some ⟨g, 0, none⟩)] w fun e w' => (∃ T x, e = .returned (.iface T x)) ∧ w = w' := by
  rcases hn with rfl | rfl
  all_goals
    simp only [Nat.reduceSub] at c1
    by_cases hx : x0 = 123
    · have t1 : ((x0.toNat : Int) != 123) = false := by rw [hx]; rfl
      have t2 : ((x1.toNat : Int) != 125) = true := by
        rw [bne_iff_ne]
        intro h'
        rcases hb with hb | hb
        · exact hb hx
        · exact hb (UInt8.toNat_inj.1 (by show _ = 125; omega))
      clear hb hx
      go_enter Try.func63, Try.ntmps63
      go_wp2
      go_ret
      exact ⟨⟨_, _, rfl⟩, rfl⟩
    · have t1 : ((x0.toNat : Int) != 123) = true := by
        rw [bne_iff_ne]
        intro h'
        exact hx (UInt8.toNat_inj.1 (by show _ = 123; omega))
      clear hb hx
      go_enter Try.func63, Try.ntmps63
      go_wp2
      go_ret
      exact ⟨⟨_, _, rfl⟩, rfl⟩
set_option maxRecDepth 100000 in
theorem parse_urn (g h n c : Nat) (hn : n = 41 ∨ n = 45) (hc : n ≤ c) (l : List UInt8) (hl : l.length = n) (hu : l.take 9 ≠ urn9) (w : World) (hcl : CellsL w h l) :
    Calls Try.prog 63 #[.slice (some ⟨h, 0, none⟩) n c, .pointer (some ⟨g, 0, none⟩)] w fun e w' => (∃ T x, e = .returned (.iface T x)) ∧ w = w' := by
  have h9 : (l.take 9).length = 9 := by rw [List.length_take, hl]; omega
  have sv : (convert 27 9 (.slice (some ⟨h, 0, none⟩) 9 c)).run Try.prog w = .ok (.string ⟨(l.take 9).toArray⟩) w := by
    have hb : Byt w (some ⟨h, 0, none⟩) (l.take 9) := fun _ => ⟨h, 0, rfl, block_lt_of_cell (hcl 0 (by omega)), fun j hj => by
      have hj' : j < l.length := by simp at hj; omega
      rw [Nat.zero_add, hcl j hj']
      simp [B8, List.getD, hj']⟩
    exact run_strB 27 9 5 Try.underlying27 Try.underlying5 Try.underlying9 (some ⟨h, 0, none⟩) 9 c (l.take 9) hb h9 (by omega)
  obtain ⟨S, hS⟩ : ∃ S : ByteArray, S = ⟨(l.take 9).toArray⟩ := ⟨_, rfl⟩
  have t1 : (S.toList == [117, 114, 110, 58, 117, 117, 105, 100, 58]) = false := by
    rw [hS, beq_eq_false_iff_ne]
    intro h'
    simp at h'
    exact hu h'
  rw [← hS] at sv
  clear hS hu hcl hl h9
  rcases hn with rfl | rfl
  all_goals
    have ci : ((9 : Nat) : Int) ≤ (c : Int) := by omega
    go_enter Try.func63, Try.ntmps63
    go_wp2
    go_ret
    exact ⟨⟨_, _, rfl⟩, rfl⟩
theorem parse_any (g h c : Nat) (l : List UInt8) (hc : l.length ≤ c) (cur : List Value) (hcur : cur.length = 16) (h1 : ∀ v ∈ cur, v.oneCell' = true) (w : World) (hg : At w g 63 cur) (hcl : CellsL w h l) (hne : h ≠ g) :
    Calls Try.prog 63 #[.slice (some ⟨h, 0, none⟩) l.length c, .pointer (some ⟨g, 0, none⟩)] w (PPost (implO l) w g) := by
  obtain ⟨n, hn⟩ : ∃ n, n = l.length := ⟨_, rfl⟩
  have hl : l.length = n := hn.symm
  unfold implO
  rw [hl] at hc ⊢
  clear hn
  by_cases h32 : n = 32
  · subst h32
    rw [if_pos (.inl rfl)]
    exact parse32 g h c l hl hc cur hcur h1 w hg hcl hne
  by_cases h36 : n = 36
  · subst h36
    rw [if_pos (.inr rfl)]
    exact parse36 g h c l hl hc cur hcur h1 w hg hcl hne
  rw [if_neg (by omega)]
  by_cases h3 : n = 34 ∨ n = 38
  · rw [if_pos h3]
    by_cases hb : l.getD 0 0 = 123 ∧ l.getD (n - 1) 0 = 125
    · rw [if_pos hb]
      rcases h3 with rfl | rfl
      · exact parse34 g h c l hl hc cur hcur h1 hb.1 hb.2 w hg hcl hne
      · exact parse38 g h c l hl hc cur hcur h1 hb.1 hb.2 w hg hcl hne
    · rw [if_neg hb]
      refine (parse_braces g h n c h3 (l.getD 0 0) (l.getD (n - 1) 0) w (hcl 0 (by omega)) (hcl (n - 1) (by omega)) (by
        by_cases h0 : l.getD 0 0 = 123
        · exact .inr fun h2 => hb ⟨h0, h2⟩
        · exact .inl h0)).mono ?_
      rintro e w' ⟨⟨T, x, rfl⟩, rfl⟩
      exact PPost.quiet hcur h1 hg rfl
  rw [if_neg h3]
  by_cases h4 : n = 41 ∨ n = 45
  · rw [if_pos h4]
    by_cases hu : l.take 9 = urn9
    · rw [if_pos hu]
      rcases h4 with rfl | rfl
      · exact parse41 g h c l hl hc cur hcur h1 hu w hg hcl hne
      · exact parse45 g h c l hl hc cur hcur h1 hu w hg hcl hne
    · rw [if_neg hu]
      refine (parse_urn g h n c h4 hc l hl hu w hcl).mono ?_
      rintro e w' ⟨⟨T, x, rfl⟩, rfl⟩
      exact PPost.quiet hcur h1 hg rfl
  · rw [if_neg h4]
    refine (parse_len g h n c h32 h36 (by omega) (by omega) (by omega) (by omega) w).mono ?_
    rintro e w' ⟨⟨T, x, rfl⟩, rfl⟩
    exact PPost.quiet hcur h1 hg rfl
end Go.Proofs.Ytnofmiinbmfbnaa
