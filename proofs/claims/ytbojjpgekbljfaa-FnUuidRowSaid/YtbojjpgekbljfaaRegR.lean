/-
  What the operations of a region leave that loads g.rand and calls readFull.
-/
import Derived.Test.YtbojjpgekbljfaaMaker
import Derived.Test.YtbojjpgekbljfaaReadFull
namespace Go.Proofs.Ytbojjpgekbljfaa
open Go.RowKit
set_option linter.unusedVariables false
def RgC (g f : Nat) (SL K ER : Value) (l : Nat) (j : Nat) (x : Value) : Prop :=
  match j with
  | 0 => x = .pointer (some ⟨g, 0, none⟩)
  | 1 => x = .pointer (some ⟨g, 0, none⟩)
  | 2 => x = .pointer (some ⟨g, 2, none⟩)
  | 3 => x = rdV f
  | 4 => x = SL
  | 5 => x = .tuple #[K, ER]
  | 6 => x = .tuple #[K, ER]
  | 7 => x = K
  | 8 => x = ER
  | 9 => x = if l = 2 then K else ER
  | 10 => x = ER
  | _ => True
theorem Two.toGrown {u v w : World} {f b : Nat} (h : u.grownBy v Option.none) (k : Two v w f b) (hb : u.heap.size ≤ b) : u.grownBy w (some f) :=
  ⟨k.os.trans h.os, k.tape.trans h.tape, k.output.trans h.output, Nat.le_trans h.size k.size, fun i hi hne =>
    (k.block i (Nat.lt_of_lt_of_le hi h.size) (by simpa using hne) (by omega)).trans (h.block i hi (by simp))⟩
end Go.Proofs.Ytbojjpgekbljfaa
