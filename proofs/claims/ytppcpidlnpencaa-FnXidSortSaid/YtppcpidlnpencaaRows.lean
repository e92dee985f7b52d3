/-
  No cell of these rows narrows 'for every input' (looked for: loops, veiled, ifaces, maps, wideKeys, modest, calm, conditions, laid).
  DERIVED. THE GIVEN ROWS OF THIS SEAT. 8 by the template 'for every input the law returns true; each argument reads behind the call as it read before'; 0 by the template 'total and deterministic' (their statements: YtppcpidlnpencaaTotals.lean).
  GIVEN WITH THE SEED: the statements are not yours to turn. If you find one false, say at which input.
  Laid BY PROGRAM, IN A SANDBOX (cutbox-rows.mjs): the forced cells as the released guide's own fill.sh prints them over the translation 590e7a6dfd31f422… (all of the seat's roots in one cut). By AI agents, Wed Nov 11 2026. No macro, syntax, notation, axiom, sorry.
-/
import Derived.Test.YtppcpidlnpencaaChecked
import GoSem.Claim
import GoSem.ClaimJoined
import GoSem.ClaimMapViews
import Derived.JoinedTies
import Derived.KernelRfl
namespace Go.Proofs.Ytppcpidlnpencaa
/- THE CELL 'sum', in the pinned program and in every row, IS THE sha256 OF THE DUMP (.gsa) THAT YtppcpidlnpencaaProg.lean LOADS. Nothing in Lean hashes anything: it is a label: what it is worth is what the hold of that sum in a sandbox is worth. -/
noncomputable def Try.pinned : Pinned := { name := "ytppcpidlnpencaa", sum := "590e7a6dfd31f422dc70d0f1703b34655c257dec8797ca4c46f0dc71ee16c9ec", checked := Try.checked }
namespace Rows
def none {H : Type} : Left H := { results := [], args := [] }

/-- 'laws.FnXidMake': WHATEVER THE INPUT: true; the input reads as it did. -/
def fnXidMakeSpec : ChangeSpec := { name := "fnXidMake", fn := fun _ => fun
  | [d1, d2, d3, d4] => { results := [.lit (.bool true)], args := [d1, d2, d3, d4] }
  | _ => none }
def fnXidMakeRow : OpenClaim := { program := "ytppcpidlnpencaa", sum := "590e7a6dfd31f422dc70d0f1703b34655c257dec8797ca4c46f0dc71ee16c9ec", func := "loop.example/pub-marksoftime/laws.FnXidMake", spec := "fnXidMake", apart := false }
def FnXidMakeSaid : Prop := fnXidMakeRow.holds Try.pinned (OpenSpec.ofChange fnXidMakeSpec)

/-- ITS FALSE NEIGHBOUR: 'it returns false'. Refute it at one input. -/
def fnXidMakeWrong : ChangeSpec := { name := "fnXidMake", fn := fun _ => fun
  | [d1, d2, d3, d4] => { results := [.lit (.bool false)], args := [d1, d2, d3, d4] }
  | _ => none }
def FnXidMakeWrongFalsely : Prop := fnXidMakeRow.holds Try.pinned (OpenSpec.ofChange fnXidMakeWrong)

/-- 'laws.FnXidRead': WHATEVER THE INPUT: true; the input reads as it did. -/
def fnXidReadSpec : ChangeSpec := { name := "fnXidRead", fn := fun _ => fun
  | [d] => { results := [.lit (.bool true)], args := [d] }
  | _ => none }
def fnXidReadRow : OpenClaim := { program := "ytppcpidlnpencaa", sum := "590e7a6dfd31f422dc70d0f1703b34655c257dec8797ca4c46f0dc71ee16c9ec", func := "loop.example/pub-marksoftime/laws.FnXidRead", spec := "fnXidRead", apart := false }
def FnXidReadSaid : Prop := fnXidReadRow.holds Try.pinned (OpenSpec.ofChange fnXidReadSpec)

/-- ITS FALSE NEIGHBOUR: 'it returns false'. Refute it at one input. -/
def fnXidReadWrong : ChangeSpec := { name := "fnXidRead", fn := fun _ => fun
  | [d] => { results := [.lit (.bool false)], args := [d] }
  | _ => none }
def FnXidReadWrongFalsely : Prop := fnXidReadRow.holds Try.pinned (OpenSpec.ofChange fnXidReadWrong)

/-- 'laws.FnXidRow': WHATEVER THE INPUT: true; the input reads as it did. -/
def fnXidRowSpec : ChangeSpec := { name := "fnXidRow", fn := fun _ => fun
  | [d1, d2, d3, d4] => { results := [.lit (.bool true)], args := [d1, d2, d3, d4] }
  | _ => none }
def fnXidRowRow : OpenClaim := { program := "ytppcpidlnpencaa", sum := "590e7a6dfd31f422dc70d0f1703b34655c257dec8797ca4c46f0dc71ee16c9ec", func := "loop.example/pub-marksoftime/laws.FnXidRow", spec := "fnXidRow", apart := false }
def FnXidRowSaid : Prop := fnXidRowRow.holds Try.pinned (OpenSpec.ofChange fnXidRowSpec)

/-- ITS FALSE NEIGHBOUR: 'it returns false'. Refute it at one input. -/
def fnXidRowWrong : ChangeSpec := { name := "fnXidRow", fn := fun _ => fun
  | [d1, d2, d3, d4] => { results := [.lit (.bool false)], args := [d1, d2, d3, d4] }
  | _ => none }
def FnXidRowWrongFalsely : Prop := fnXidRowRow.holds Try.pinned (OpenSpec.ofChange fnXidRowWrong)

/-- 'laws.FnXidParts': WHATEVER THE INPUT: true; the input reads as it did. -/
def fnXidPartsSpec : ChangeSpec := { name := "fnXidParts", fn := fun _ => fun
  | [d] => { results := [.lit (.bool true)], args := [d] }
  | _ => none }
def fnXidPartsRow : OpenClaim := { program := "ytppcpidlnpencaa", sum := "590e7a6dfd31f422dc70d0f1703b34655c257dec8797ca4c46f0dc71ee16c9ec", func := "loop.example/pub-marksoftime/laws.FnXidParts", spec := "fnXidParts", apart := false }
def FnXidPartsSaid : Prop := fnXidPartsRow.holds Try.pinned (OpenSpec.ofChange fnXidPartsSpec)

/-- ITS FALSE NEIGHBOUR: 'it returns false'. Refute it at one input. -/
def fnXidPartsWrong : ChangeSpec := { name := "fnXidParts", fn := fun _ => fun
  | [d] => { results := [.lit (.bool false)], args := [d] }
  | _ => none }
def FnXidPartsWrongFalsely : Prop := fnXidPartsRow.holds Try.pinned (OpenSpec.ofChange fnXidPartsWrong)

/-- 'laws.FnXidCompare': WHATEVER THE INPUT: true; the input reads as it did. -/
def fnXidCompareSpec : ChangeSpec := { name := "fnXidCompare", fn := fun _ => fun
  | [d1, d2] => { results := [.lit (.bool true)], args := [d1, d2] }
  | _ => none }
def fnXidCompareRow : OpenClaim := { program := "ytppcpidlnpencaa", sum := "590e7a6dfd31f422dc70d0f1703b34655c257dec8797ca4c46f0dc71ee16c9ec", func := "loop.example/pub-marksoftime/laws.FnXidCompare", spec := "fnXidCompare", apart := false }
def FnXidCompareSaid : Prop := fnXidCompareRow.holds Try.pinned (OpenSpec.ofChange fnXidCompareSpec)

/-- ITS FALSE NEIGHBOUR: 'it returns false'. Refute it at one input. -/
def fnXidCompareWrong : ChangeSpec := { name := "fnXidCompare", fn := fun _ => fun
  | [d1, d2] => { results := [.lit (.bool false)], args := [d1, d2] }
  | _ => none }
def FnXidCompareWrongFalsely : Prop := fnXidCompareRow.holds Try.pinned (OpenSpec.ofChange fnXidCompareWrong)

/-- 'laws.FnXidRefuse': WHATEVER THE INPUT: true; the input reads as it did. -/
def fnXidRefuseSpec : ChangeSpec := { name := "fnXidRefuse", fn := fun _ => fun
  | [d1, d2] => { results := [.lit (.bool true)], args := [d1, d2] }
  | _ => none }
def fnXidRefuseRow : OpenClaim := { program := "ytppcpidlnpencaa", sum := "590e7a6dfd31f422dc70d0f1703b34655c257dec8797ca4c46f0dc71ee16c9ec", func := "loop.example/pub-marksoftime/laws.FnXidRefuse", spec := "fnXidRefuse", apart := false }
def FnXidRefuseSaid : Prop := fnXidRefuseRow.holds Try.pinned (OpenSpec.ofChange fnXidRefuseSpec)

/-- ITS FALSE NEIGHBOUR: 'it returns false'. Refute it at one input. -/
def fnXidRefuseWrong : ChangeSpec := { name := "fnXidRefuse", fn := fun _ => fun
  | [d1, d2] => { results := [.lit (.bool false)], args := [d1, d2] }
  | _ => none }
def FnXidRefuseWrongFalsely : Prop := fnXidRefuseRow.holds Try.pinned (OpenSpec.ofChange fnXidRefuseWrong)

/-- 'laws.FnXidText': WHATEVER THE INPUT: true; the input reads as it did. -/
def fnXidTextSpec : ChangeSpec := { name := "fnXidText", fn := fun _ => fun
  | [d] => { results := [.lit (.bool true)], args := [d] }
  | _ => none }
def fnXidTextRow : OpenClaim := { program := "ytppcpidlnpencaa", sum := "590e7a6dfd31f422dc70d0f1703b34655c257dec8797ca4c46f0dc71ee16c9ec", func := "loop.example/pub-marksoftime/laws.FnXidText", spec := "fnXidText", apart := false }
def FnXidTextSaid : Prop := fnXidTextRow.holds Try.pinned (OpenSpec.ofChange fnXidTextSpec)

/-- ITS FALSE NEIGHBOUR: 'it returns false'. Refute it at one input. -/
def fnXidTextWrong : ChangeSpec := { name := "fnXidText", fn := fun _ => fun
  | [d] => { results := [.lit (.bool false)], args := [d] }
  | _ => none }
def FnXidTextWrongFalsely : Prop := fnXidTextRow.holds Try.pinned (OpenSpec.ofChange fnXidTextWrong)

/-- 'laws.FnXidSort': WHATEVER THE INPUT: true; the input reads as it did. -/
def fnXidSortSpec : ChangeSpec := { name := "fnXidSort", fn := fun _ => fun
  | [d] => { results := [.lit (.bool true)], args := [d] }
  | _ => none }
def fnXidSortRow : OpenClaim := { program := "ytppcpidlnpencaa", sum := "590e7a6dfd31f422dc70d0f1703b34655c257dec8797ca4c46f0dc71ee16c9ec", func := "loop.example/pub-marksoftime/laws.FnXidSort", spec := "fnXidSort", unfollowed := true, recurses := true, apart := false }
def FnXidSortSaid : Prop := fnXidSortRow.holds Try.pinned (OpenSpec.ofChange fnXidSortSpec)

/-- ITS FALSE NEIGHBOUR: 'it returns false'. Refute it at one input. -/
def fnXidSortWrong : ChangeSpec := { name := "fnXidSort", fn := fun _ => fun
  | [d] => { results := [.lit (.bool false)], args := [d] }
  | _ => none }
def FnXidSortWrongFalsely : Prop := fnXidSortRow.holds Try.pinned (OpenSpec.ofChange fnXidSortWrong)

/- THE SECOND FORM. 'bulk': how many values and letters a reading holds, each counted each time it is reached (what is shared counts as often as it is met; a slice's spare places count too). A statement '..UptoSaid' is the law's where the arguments, and the package variables that the reading takes, are together of bulk at most 1048576: NARROWER than '..Said'. Prove '..Said' where nothing that the law and all that it calls make is longer than what came in: it says more and counts as full. Else prove '..UptoSaid'. A law counts once. -/
mutual
def uptoBulk {H : Type} : DataW H → Nat
  | .lit (.string bytes) => bytes.length + 1
  | .lit _ => 1
  | .nil => 1
  | .ptr d => uptoBulk d + 1
  | .slice elems spare => uptoBulkAll elems + uptoBulkAll spare + 1
  | .agg parts => uptoBulkAll parts + 1
  | .iface _ d => uptoBulk d + 1
  | .map entries => uptoBulkEntries entries + 1
  | .held _ => 1
def uptoBulkAll {H : Type} : List (DataW H) → Nat
  | [] => 0
  | d :: r => uptoBulk d + uptoBulkAll r
def uptoBulkEntries {H : Type} : List (Lit × DataW H) → Nat
  | [] => 0
  | x :: r => uptoBulkEntry x + uptoBulkEntries r
def uptoBulkEntry {H : Type} : Lit × DataW H → Nat
  | (.string bytes, d) => bytes.length + uptoBulk d + 1
  | (_, d) => uptoBulk d + 1
 end
def uptoSmall : (H : Type) → List (DataW H) → Bool := fun _ ds => decide (uptoBulkAll ds ≤ 1048576)
def OpenSpec.upto (s : _root_.Go.ChangeSpec) : _root_.Go.OpenSpec := { _root_.Go.OpenSpec.ofChange s with cond := some uptoSmall }

/-- 'laws.FnXidMake', WHERE WHAT IT READS IS OF BULK AT MOST 1048576: true; the input reads as it did. -/
def fnXidMakeUptoRow : OpenClaim := { program := "ytppcpidlnpencaa", sum := "590e7a6dfd31f422dc70d0f1703b34655c257dec8797ca4c46f0dc71ee16c9ec", func := "loop.example/pub-marksoftime/laws.FnXidMake", spec := "fnXidMake", apart := false, narrowed := true }
def FnXidMakeUptoSaid : Prop := fnXidMakeUptoRow.holds Try.pinned (OpenSpec.upto fnXidMakeSpec)

/-- 'laws.FnXidRead', WHERE WHAT IT READS IS OF BULK AT MOST 1048576: true; the input reads as it did. -/
def fnXidReadUptoRow : OpenClaim := { program := "ytppcpidlnpencaa", sum := "590e7a6dfd31f422dc70d0f1703b34655c257dec8797ca4c46f0dc71ee16c9ec", func := "loop.example/pub-marksoftime/laws.FnXidRead", spec := "fnXidRead", apart := false, narrowed := true }
def FnXidReadUptoSaid : Prop := fnXidReadUptoRow.holds Try.pinned (OpenSpec.upto fnXidReadSpec)

/-- 'laws.FnXidRow', WHERE WHAT IT READS IS OF BULK AT MOST 1048576: true; the input reads as it did. -/
def fnXidRowUptoRow : OpenClaim := { program := "ytppcpidlnpencaa", sum := "590e7a6dfd31f422dc70d0f1703b34655c257dec8797ca4c46f0dc71ee16c9ec", func := "loop.example/pub-marksoftime/laws.FnXidRow", spec := "fnXidRow", apart := false, narrowed := true }
def FnXidRowUptoSaid : Prop := fnXidRowUptoRow.holds Try.pinned (OpenSpec.upto fnXidRowSpec)

/-- 'laws.FnXidParts', WHERE WHAT IT READS IS OF BULK AT MOST 1048576: true; the input reads as it did. -/
def fnXidPartsUptoRow : OpenClaim := { program := "ytppcpidlnpencaa", sum := "590e7a6dfd31f422dc70d0f1703b34655c257dec8797ca4c46f0dc71ee16c9ec", func := "loop.example/pub-marksoftime/laws.FnXidParts", spec := "fnXidParts", apart := false, narrowed := true }
def FnXidPartsUptoSaid : Prop := fnXidPartsUptoRow.holds Try.pinned (OpenSpec.upto fnXidPartsSpec)

/-- 'laws.FnXidCompare', WHERE WHAT IT READS IS OF BULK AT MOST 1048576: true; the input reads as it did. -/
def fnXidCompareUptoRow : OpenClaim := { program := "ytppcpidlnpencaa", sum := "590e7a6dfd31f422dc70d0f1703b34655c257dec8797ca4c46f0dc71ee16c9ec", func := "loop.example/pub-marksoftime/laws.FnXidCompare", spec := "fnXidCompare", apart := false, narrowed := true }
def FnXidCompareUptoSaid : Prop := fnXidCompareUptoRow.holds Try.pinned (OpenSpec.upto fnXidCompareSpec)

/-- 'laws.FnXidRefuse', WHERE WHAT IT READS IS OF BULK AT MOST 1048576: true; the input reads as it did. -/
def fnXidRefuseUptoRow : OpenClaim := { program := "ytppcpidlnpencaa", sum := "590e7a6dfd31f422dc70d0f1703b34655c257dec8797ca4c46f0dc71ee16c9ec", func := "loop.example/pub-marksoftime/laws.FnXidRefuse", spec := "fnXidRefuse", apart := false, narrowed := true }
def FnXidRefuseUptoSaid : Prop := fnXidRefuseUptoRow.holds Try.pinned (OpenSpec.upto fnXidRefuseSpec)

/-- 'laws.FnXidText', WHERE WHAT IT READS IS OF BULK AT MOST 1048576: true; the input reads as it did. -/
def fnXidTextUptoRow : OpenClaim := { program := "ytppcpidlnpencaa", sum := "590e7a6dfd31f422dc70d0f1703b34655c257dec8797ca4c46f0dc71ee16c9ec", func := "loop.example/pub-marksoftime/laws.FnXidText", spec := "fnXidText", apart := false, narrowed := true }
def FnXidTextUptoSaid : Prop := fnXidTextUptoRow.holds Try.pinned (OpenSpec.upto fnXidTextSpec)

/-- 'laws.FnXidSort', WHERE WHAT IT READS IS OF BULK AT MOST 1048576: true; the input reads as it did. -/
def fnXidSortUptoRow : OpenClaim := { program := "ytppcpidlnpencaa", sum := "590e7a6dfd31f422dc70d0f1703b34655c257dec8797ca4c46f0dc71ee16c9ec", func := "loop.example/pub-marksoftime/laws.FnXidSort", spec := "fnXidSort", unfollowed := true, recurses := true, apart := false, narrowed := true }
def FnXidSortUptoSaid : Prop := fnXidSortUptoRow.holds Try.pinned (OpenSpec.upto fnXidSortSpec)

end Rows
end Go.Proofs.Ytppcpidlnpencaa
