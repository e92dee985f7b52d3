/-
  No cell of these rows narrows 'for every input' (looked for: loops, veiled, ifaces, maps, wideKeys, modest, calm, conditions, laid).
  DERIVED. THE GIVEN ROWS OF THIS SEAT. 7 by the template 'for every input the law returns true; each argument reads behind the call as it read before'; 0 by the template 'total and deterministic' (their statements: YtbojjpgekbljfaaTotals.lean).
  GIVEN WITH THE SEED: the statements are not yours to turn. If you find one false, say at which input.
  Laid BY PROGRAM, IN A SANDBOX (cutbox-rows.mjs): the forced cells as the released guide's own fill.sh prints them over the translation 1ed4d8acbaf6a9e7… (all of the seat's roots in one cut). By AI agents, Wed Nov 11 2026. No macro, syntax, notation, axiom, sorry.
-/
import Derived.Test.YtbojjpgekbljfaaChecked
import GoSem.Claim
import GoSem.ClaimJoined
import GoSem.ClaimMapViews
import Derived.JoinedTies
import Derived.KernelRfl
namespace Go.Proofs.Ytbojjpgekbljfaa
/- THE CELL 'sum', in the pinned program and in every row, IS THE sha256 OF THE DUMP (.gsa) THAT YtbojjpgekbljfaaProg.lean LOADS. Nothing in Lean hashes anything: it is a label: what it is worth is what the hold of that sum in a sandbox is worth. -/
noncomputable def Try.pinned : Pinned := { name := "ytbojjpgekbljfaa", sum := "1ed4d8acbaf6a9e7370cf937a5062fc31a07158cc51f78b49429ddcbcc6bd0c2", checked := Try.checked }
namespace Rows
def none {H : Type} : Left H := { results := [], args := [] }

/-- 'laws.FnUuidOrder': WHATEVER THE INPUT: true; the input reads as it did. -/
def fnUuidOrderSpec : ChangeSpec := { name := "fnUuidOrder", fn := fun _ => fun
  | [d1, d2, d3, d4, d5, d6] => { results := [.lit (.bool true)], args := [d1, d2, d3, d4, d5, d6] }
  | _ => none }
def fnUuidOrderRow : OpenClaim := { program := "ytbojjpgekbljfaa", sum := "1ed4d8acbaf6a9e7370cf937a5062fc31a07158cc51f78b49429ddcbcc6bd0c2", func := "loop.example/pub-marksoftime/laws.FnUuidOrder", spec := "fnUuidOrder", unfollowed := true, recurses := true, apart := false }
def FnUuidOrderSaid : Prop := fnUuidOrderRow.holds Try.pinned (OpenSpec.ofChange fnUuidOrderSpec)

/-- ITS FALSE NEIGHBOUR: 'it returns false'. Refute it at one input. -/
def fnUuidOrderWrong : ChangeSpec := { name := "fnUuidOrder", fn := fun _ => fun
  | [d1, d2, d3, d4, d5, d6] => { results := [.lit (.bool false)], args := [d1, d2, d3, d4, d5, d6] }
  | _ => none }
def FnUuidOrderWrongFalsely : Prop := fnUuidOrderRow.holds Try.pinned (OpenSpec.ofChange fnUuidOrderWrong)

/-- 'laws.FnUuidNow': WHATEVER THE INPUT: true; the input reads as it did. -/
def fnUuidNowSpec : ChangeSpec := { name := "fnUuidNow", fn := fun _ => fun
  | [d1, d2, d3, d4, d5] => { results := [.lit (.bool true)], args := [d1, d2, d3, d4, d5] }
  | _ => none }
def fnUuidNowRow : OpenClaim := { program := "ytbojjpgekbljfaa", sum := "1ed4d8acbaf6a9e7370cf937a5062fc31a07158cc51f78b49429ddcbcc6bd0c2", func := "loop.example/pub-marksoftime/laws.FnUuidNow", spec := "fnUuidNow", unfollowed := true, recurses := true, apart := false }
def FnUuidNowSaid : Prop := fnUuidNowRow.holds Try.pinned (OpenSpec.ofChange fnUuidNowSpec)

/-- ITS FALSE NEIGHBOUR: 'it returns false'. Refute it at one input. -/
def fnUuidNowWrong : ChangeSpec := { name := "fnUuidNow", fn := fun _ => fun
  | [d1, d2, d3, d4, d5] => { results := [.lit (.bool false)], args := [d1, d2, d3, d4, d5] }
  | _ => none }
def FnUuidNowWrongFalsely : Prop := fnUuidNowRow.holds Try.pinned (OpenSpec.ofChange fnUuidNowWrong)

/-- 'laws.FnUuidOwn': WHATEVER THE INPUT: true; the input reads as it did. -/
def fnUuidOwnSpec : ChangeSpec := { name := "fnUuidOwn", fn := fun _ => fun
  | [d1, d2, d3] => { results := [.lit (.bool true)], args := [d1, d2, d3] }
  | _ => none }
def fnUuidOwnRow : OpenClaim := { program := "ytbojjpgekbljfaa", sum := "1ed4d8acbaf6a9e7370cf937a5062fc31a07158cc51f78b49429ddcbcc6bd0c2", func := "loop.example/pub-marksoftime/laws.FnUuidOwn", spec := "fnUuidOwn", unfollowed := true, recurses := true, apart := false }
def FnUuidOwnSaid : Prop := fnUuidOwnRow.holds Try.pinned (OpenSpec.ofChange fnUuidOwnSpec)

/-- ITS FALSE NEIGHBOUR: 'it returns false'. Refute it at one input. -/
def fnUuidOwnWrong : ChangeSpec := { name := "fnUuidOwn", fn := fun _ => fun
  | [d1, d2, d3] => { results := [.lit (.bool false)], args := [d1, d2, d3] }
  | _ => none }
def FnUuidOwnWrongFalsely : Prop := fnUuidOwnRow.holds Try.pinned (OpenSpec.ofChange fnUuidOwnWrong)

/-- 'laws.FnUuidRandom': WHATEVER THE INPUT: true; the input reads as it did. -/
def fnUuidRandomSpec : ChangeSpec := { name := "fnUuidRandom", fn := fun _ => fun
  | [d] => { results := [.lit (.bool true)], args := [d] }
  | _ => none }
def fnUuidRandomRow : OpenClaim := { program := "ytbojjpgekbljfaa", sum := "1ed4d8acbaf6a9e7370cf937a5062fc31a07158cc51f78b49429ddcbcc6bd0c2", func := "loop.example/pub-marksoftime/laws.FnUuidRandom", spec := "fnUuidRandom", unfollowed := true, recurses := true, apart := false }
def FnUuidRandomSaid : Prop := fnUuidRandomRow.holds Try.pinned (OpenSpec.ofChange fnUuidRandomSpec)

/-- ITS FALSE NEIGHBOUR: 'it returns false'. Refute it at one input. -/
def fnUuidRandomWrong : ChangeSpec := { name := "fnUuidRandom", fn := fun _ => fun
  | [d] => { results := [.lit (.bool false)], args := [d] }
  | _ => none }
def FnUuidRandomWrongFalsely : Prop := fnUuidRandomRow.holds Try.pinned (OpenSpec.ofChange fnUuidRandomWrong)

/-- 'laws.FnUuidRow': WHATEVER THE INPUT: true; the input reads as it did. -/
def fnUuidRowSpec : ChangeSpec := { name := "fnUuidRow", fn := fun _ => fun
  | [d1, d2] => { results := [.lit (.bool true)], args := [d1, d2] }
  | _ => none }
def fnUuidRowRow : OpenClaim := { program := "ytbojjpgekbljfaa", sum := "1ed4d8acbaf6a9e7370cf937a5062fc31a07158cc51f78b49429ddcbcc6bd0c2", func := "loop.example/pub-marksoftime/laws.FnUuidRow", spec := "fnUuidRow", unfollowed := true, recurses := true, apart := false }
def FnUuidRowSaid : Prop := fnUuidRowRow.holds Try.pinned (OpenSpec.ofChange fnUuidRowSpec)

/-- ITS FALSE NEIGHBOUR: 'it returns false'. Refute it at one input. -/
def fnUuidRowWrong : ChangeSpec := { name := "fnUuidRow", fn := fun _ => fun
  | [d1, d2] => { results := [.lit (.bool false)], args := [d1, d2] }
  | _ => none }
def FnUuidRowWrongFalsely : Prop := fnUuidRowRow.holds Try.pinned (OpenSpec.ofChange fnUuidRowWrong)

/-- 'laws.FnUuidAt': WHATEVER THE INPUT: true; the input reads as it did. -/
def fnUuidAtSpec : ChangeSpec := { name := "fnUuidAt", fn := fun _ => fun
  | [d1, d2, d3, d4, d5] => { results := [.lit (.bool true)], args := [d1, d2, d3, d4, d5] }
  | _ => none }
def fnUuidAtRow : OpenClaim := { program := "ytbojjpgekbljfaa", sum := "1ed4d8acbaf6a9e7370cf937a5062fc31a07158cc51f78b49429ddcbcc6bd0c2", func := "loop.example/pub-marksoftime/laws.FnUuidAt", spec := "fnUuidAt", unfollowed := true, recurses := true, apart := false }
def FnUuidAtSaid : Prop := fnUuidAtRow.holds Try.pinned (OpenSpec.ofChange fnUuidAtSpec)

/-- ITS FALSE NEIGHBOUR: 'it returns false'. Refute it at one input. -/
def fnUuidAtWrong : ChangeSpec := { name := "fnUuidAt", fn := fun _ => fun
  | [d1, d2, d3, d4, d5] => { results := [.lit (.bool false)], args := [d1, d2, d3, d4, d5] }
  | _ => none }
def FnUuidAtWrongFalsely : Prop := fnUuidAtRow.holds Try.pinned (OpenSpec.ofChange fnUuidAtWrong)

/-- 'laws.FnUuidNode': WHATEVER THE INPUT: true; the input reads as it did. -/
def fnUuidNodeSpec : ChangeSpec := { name := "fnUuidNode", fn := fun _ => fun
  | [d1, d2, d3, d4] => { results := [.lit (.bool true)], args := [d1, d2, d3, d4] }
  | _ => none }
def fnUuidNodeRow : OpenClaim := { program := "ytbojjpgekbljfaa", sum := "1ed4d8acbaf6a9e7370cf937a5062fc31a07158cc51f78b49429ddcbcc6bd0c2", func := "loop.example/pub-marksoftime/laws.FnUuidNode", spec := "fnUuidNode", unfollowed := true, recurses := true, apart := false }
def FnUuidNodeSaid : Prop := fnUuidNodeRow.holds Try.pinned (OpenSpec.ofChange fnUuidNodeSpec)

/-- ITS FALSE NEIGHBOUR: 'it returns false'. Refute it at one input. -/
def fnUuidNodeWrong : ChangeSpec := { name := "fnUuidNode", fn := fun _ => fun
  | [d1, d2, d3, d4] => { results := [.lit (.bool false)], args := [d1, d2, d3, d4] }
  | _ => none }
def FnUuidNodeWrongFalsely : Prop := fnUuidNodeRow.holds Try.pinned (OpenSpec.ofChange fnUuidNodeWrong)

/- THE SECOND FORM. 'bulk': how many values and letters a reading holds, each counted each time it is reached (what is shared counts as often as it is met; a slice's spare places count too). A statement '..UptoSaid' is the law's where the arguments, and the package variables that the reading takes, are together of bulk at most 1048576: NARROWER than '..Said'. Prove '..Said' where nothing that the law and all that it calls make is longer than what came in: it says more and counts as full. Else prove '..UptoSaid'. A law counts once. -/
mutual
def uptoBulk {H : Type} : DataW H → Nat
  | .lit (.string bytes) => bytes.length + 1
  | .lit _ => 1
  | .nil => 1
  | .ptr d => uptoBulk d + 1
  | .slice elems spare => uptoBulkAll elems + uptoBulkAll spare + 1
  | .agg parts => uptoBulkAll parts + 1
  | .iface _ d => uptoBulk d + 1
  | .map entries => uptoBulkEntries entries + 1
  | .held _ => 1
def uptoBulkAll {H : Type} : List (DataW H) → Nat
  | [] => 0
  | d :: r => uptoBulk d + uptoBulkAll r
def uptoBulkEntries {H : Type} : List (Lit × DataW H) → Nat
  | [] => 0
  | x :: r => uptoBulkEntry x + uptoBulkEntries r
def uptoBulkEntry {H : Type} : Lit × DataW H → Nat
  | (.string bytes, d) => bytes.length + uptoBulk d + 1
  | (_, d) => uptoBulk d + 1
 end
def uptoSmall : (H : Type) → List (DataW H) → Bool := fun _ ds => decide (uptoBulkAll ds ≤ 1048576)
def OpenSpec.upto (s : _root_.Go.ChangeSpec) : _root_.Go.OpenSpec := { _root_.Go.OpenSpec.ofChange s with cond := some uptoSmall }

/-- 'laws.FnUuidOrder', WHERE WHAT IT READS IS OF BULK AT MOST 1048576: true; the input reads as it did. -/
def fnUuidOrderUptoRow : OpenClaim := { program := "ytbojjpgekbljfaa", sum := "1ed4d8acbaf6a9e7370cf937a5062fc31a07158cc51f78b49429ddcbcc6bd0c2", func := "loop.example/pub-marksoftime/laws.FnUuidOrder", spec := "fnUuidOrder", unfollowed := true, recurses := true, apart := false, narrowed := true }
def FnUuidOrderUptoSaid : Prop := fnUuidOrderUptoRow.holds Try.pinned (OpenSpec.upto fnUuidOrderSpec)

/-- 'laws.FnUuidNow', WHERE WHAT IT READS IS OF BULK AT MOST 1048576: true; the input reads as it did. -/
def fnUuidNowUptoRow : OpenClaim := { program := "ytbojjpgekbljfaa", sum := "1ed4d8acbaf6a9e7370cf937a5062fc31a07158cc51f78b49429ddcbcc6bd0c2", func := "loop.example/pub-marksoftime/laws.FnUuidNow", spec := "fnUuidNow", unfollowed := true, recurses := true, apart := false, narrowed := true }
def FnUuidNowUptoSaid : Prop := fnUuidNowUptoRow.holds Try.pinned (OpenSpec.upto fnUuidNowSpec)

/-- 'laws.FnUuidOwn', WHERE WHAT IT READS IS OF BULK AT MOST 1048576: true; the input reads as it did. -/
def fnUuidOwnUptoRow : OpenClaim := { program := "ytbojjpgekbljfaa", sum := "1ed4d8acbaf6a9e7370cf937a5062fc31a07158cc51f78b49429ddcbcc6bd0c2", func := "loop.example/pub-marksoftime/laws.FnUuidOwn", spec := "fnUuidOwn", unfollowed := true, recurses := true, apart := false, narrowed := true }
def FnUuidOwnUptoSaid : Prop := fnUuidOwnUptoRow.holds Try.pinned (OpenSpec.upto fnUuidOwnSpec)

/-- 'laws.FnUuidRandom', WHERE WHAT IT READS IS OF BULK AT MOST 1048576: true; the input reads as it did. -/
def fnUuidRandomUptoRow : OpenClaim := { program := "ytbojjpgekbljfaa", sum := "1ed4d8acbaf6a9e7370cf937a5062fc31a07158cc51f78b49429ddcbcc6bd0c2", func := "loop.example/pub-marksoftime/laws.FnUuidRandom", spec := "fnUuidRandom", unfollowed := true, recurses := true, apart := false, narrowed := true }
def FnUuidRandomUptoSaid : Prop := fnUuidRandomUptoRow.holds Try.pinned (OpenSpec.upto fnUuidRandomSpec)

/-- 'laws.FnUuidRow', WHERE WHAT IT READS IS OF BULK AT MOST 1048576: true; the input reads as it did. -/
def fnUuidRowUptoRow : OpenClaim := { program := "ytbojjpgekbljfaa", sum := "1ed4d8acbaf6a9e7370cf937a5062fc31a07158cc51f78b49429ddcbcc6bd0c2", func := "loop.example/pub-marksoftime/laws.FnUuidRow", spec := "fnUuidRow", unfollowed := true, recurses := true, apart := false, narrowed := true }
def FnUuidRowUptoSaid : Prop := fnUuidRowUptoRow.holds Try.pinned (OpenSpec.upto fnUuidRowSpec)

/-- 'laws.FnUuidAt', WHERE WHAT IT READS IS OF BULK AT MOST 1048576: true; the input reads as it did. -/
def fnUuidAtUptoRow : OpenClaim := { program := "ytbojjpgekbljfaa", sum := "1ed4d8acbaf6a9e7370cf937a5062fc31a07158cc51f78b49429ddcbcc6bd0c2", func := "loop.example/pub-marksoftime/laws.FnUuidAt", spec := "fnUuidAt", unfollowed := true, recurses := true, apart := false, narrowed := true }
def FnUuidAtUptoSaid : Prop := fnUuidAtUptoRow.holds Try.pinned (OpenSpec.upto fnUuidAtSpec)

/-- 'laws.FnUuidNode', WHERE WHAT IT READS IS OF BULK AT MOST 1048576: true; the input reads as it did. -/
def fnUuidNodeUptoRow : OpenClaim := { program := "ytbojjpgekbljfaa", sum := "1ed4d8acbaf6a9e7370cf937a5062fc31a07158cc51f78b49429ddcbcc6bd0c2", func := "loop.example/pub-marksoftime/laws.FnUuidNode", spec := "fnUuidNode", unfollowed := true, recurses := true, apart := false, narrowed := true }
def FnUuidNodeUptoSaid : Prop := fnUuidNodeUptoRow.holds Try.pinned (OpenSpec.upto fnUuidNodeSpec)

end Rows
end Go.Proofs.Ytbojjpgekbljfaa
