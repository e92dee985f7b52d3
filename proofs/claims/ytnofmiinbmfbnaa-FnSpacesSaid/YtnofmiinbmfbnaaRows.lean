/-
  No cell of these rows narrows 'for every input' (looked for: loops, veiled, ifaces, maps, wideKeys, modest, calm, conditions, laid).
  DERIVED. THE GIVEN ROWS OF THIS SEAT. 7 by the template 'for every input the law returns true; each argument reads behind the call as it read before'; 0 by the template 'total and deterministic' (their statements: YtnofmiinbmfbnaaTotals.lean).
  GIVEN WITH THE SEED: the statements are not yours to turn. If you find one false, say at which input.
  Laid BY PROGRAM, IN A SANDBOX (cutbox-rows.mjs): the forced cells as the released guide's own fill.sh prints them over the translation daa4ec333dcecdc7… (all of the seat's roots in one cut). By AI agents, Wed Nov 11 2026. No macro, syntax, notation, axiom, sorry.
-/
import Derived.Test.YtnofmiinbmfbnaaChecked
import GoSem.Claim
import GoSem.ClaimJoined
import GoSem.ClaimMapViews
import Derived.JoinedTies
import Derived.KernelRfl
namespace Go.Proofs.Ytnofmiinbmfbnaa
/- THE CELL 'sum', in the pinned program and in every row, IS THE sha256 OF THE DUMP (.gsa) THAT YtnofmiinbmfbnaaProg.lean LOADS. Nothing in Lean hashes anything: it is a label: what it is worth is what the hold of that sum in a sandbox is worth. -/
noncomputable def Try.pinned : Pinned := { name := "ytnofmiinbmfbnaa", sum := "daa4ec333dcecdc784c0060147b1921805ccfcd38e5584b74489dea3e6f83f4c", checked := Try.checked }
namespace Rows
def none {H : Type} : Left H := { results := [], args := [] }

/-- 'laws.FnStampTime': WHATEVER THE INPUT: true; the input reads as it did. -/
def fnStampTimeSpec : ChangeSpec := { name := "fnStampTime", fn := fun _ => fun
  | [d1, d2] => { results := [.lit (.bool true)], args := [d1, d2] }
  | _ => none }
def fnStampTimeRow : OpenClaim := { program := "ytnofmiinbmfbnaa", sum := "daa4ec333dcecdc784c0060147b1921805ccfcd38e5584b74489dea3e6f83f4c", func := "loop.example/pub-marksoftime/laws.FnStampTime", spec := "fnStampTime", apart := false }
def FnStampTimeSaid : Prop := fnStampTimeRow.holds Try.pinned (OpenSpec.ofChange fnStampTimeSpec)

/-- ITS FALSE NEIGHBOUR: 'it returns false'. Refute it at one input. -/
def fnStampTimeWrong : ChangeSpec := { name := "fnStampTime", fn := fun _ => fun
  | [d1, d2] => { results := [.lit (.bool false)], args := [d1, d2] }
  | _ => none }
def FnStampTimeWrongFalsely : Prop := fnStampTimeRow.holds Try.pinned (OpenSpec.ofChange fnStampTimeWrong)

/-- 'laws.FnUuidSet': WHATEVER THE INPUT: true; the input reads as it did. -/
def fnUuidSetSpec : ChangeSpec := { name := "fnUuidSet", fn := fun _ => fun
  | [d1, d2, d3] => { results := [.lit (.bool true)], args := [d1, d2, d3] }
  | _ => none }
def fnUuidSetRow : OpenClaim := { program := "ytnofmiinbmfbnaa", sum := "daa4ec333dcecdc784c0060147b1921805ccfcd38e5584b74489dea3e6f83f4c", func := "loop.example/pub-marksoftime/laws.FnUuidSet", spec := "fnUuidSet", apart := false }
def FnUuidSetSaid : Prop := fnUuidSetRow.holds Try.pinned (OpenSpec.ofChange fnUuidSetSpec)

/-- ITS FALSE NEIGHBOUR: 'it returns false'. Refute it at one input. -/
def fnUuidSetWrong : ChangeSpec := { name := "fnUuidSet", fn := fun _ => fun
  | [d1, d2, d3] => { results := [.lit (.bool false)], args := [d1, d2, d3] }
  | _ => none }
def FnUuidSetWrongFalsely : Prop := fnUuidSetRow.holds Try.pinned (OpenSpec.ofChange fnUuidSetWrong)

/-- 'laws.FnUuidBytes': WHATEVER THE INPUT: true; the input reads as it did. -/
def fnUuidBytesSpec : ChangeSpec := { name := "fnUuidBytes", fn := fun _ => fun
  | [d] => { results := [.lit (.bool true)], args := [d] }
  | _ => none }
def fnUuidBytesRow : OpenClaim := { program := "ytnofmiinbmfbnaa", sum := "daa4ec333dcecdc784c0060147b1921805ccfcd38e5584b74489dea3e6f83f4c", func := "loop.example/pub-marksoftime/laws.FnUuidBytes", spec := "fnUuidBytes", apart := false }
def FnUuidBytesSaid : Prop := fnUuidBytesRow.holds Try.pinned (OpenSpec.ofChange fnUuidBytesSpec)

/-- ITS FALSE NEIGHBOUR: 'it returns false'. Refute it at one input. -/
def fnUuidBytesWrong : ChangeSpec := { name := "fnUuidBytes", fn := fun _ => fun
  | [d] => { results := [.lit (.bool false)], args := [d] }
  | _ => none }
def FnUuidBytesWrongFalsely : Prop := fnUuidBytesRow.holds Try.pinned (OpenSpec.ofChange fnUuidBytesWrong)

/-- 'laws.FnUuidStamp': WHATEVER THE INPUT: true; the input reads as it did. -/
def fnUuidStampSpec : ChangeSpec := { name := "fnUuidStamp", fn := fun _ => fun
  | [d] => { results := [.lit (.bool true)], args := [d] }
  | _ => none }
def fnUuidStampRow : OpenClaim := { program := "ytnofmiinbmfbnaa", sum := "daa4ec333dcecdc784c0060147b1921805ccfcd38e5584b74489dea3e6f83f4c", func := "loop.example/pub-marksoftime/laws.FnUuidStamp", spec := "fnUuidStamp", apart := false }
def FnUuidStampSaid : Prop := fnUuidStampRow.holds Try.pinned (OpenSpec.ofChange fnUuidStampSpec)

/-- ITS FALSE NEIGHBOUR: 'it returns false'. Refute it at one input. -/
def fnUuidStampWrong : ChangeSpec := { name := "fnUuidStamp", fn := fun _ => fun
  | [d] => { results := [.lit (.bool false)], args := [d] }
  | _ => none }
def FnUuidStampWrongFalsely : Prop := fnUuidStampRow.holds Try.pinned (OpenSpec.ofChange fnUuidStampWrong)

/-- 'laws.FnUuidRead': WHATEVER THE INPUT: true; the input reads as it did. -/
def fnUuidReadSpec : ChangeSpec := { name := "fnUuidRead", fn := fun _ => fun
  | [d] => { results := [.lit (.bool true)], args := [d] }
  | _ => none }
def fnUuidReadRow : OpenClaim := { program := "ytnofmiinbmfbnaa", sum := "daa4ec333dcecdc784c0060147b1921805ccfcd38e5584b74489dea3e6f83f4c", func := "loop.example/pub-marksoftime/laws.FnUuidRead", spec := "fnUuidRead", apart := false }
def FnUuidReadSaid : Prop := fnUuidReadRow.holds Try.pinned (OpenSpec.ofChange fnUuidReadSpec)

/-- ITS FALSE NEIGHBOUR: 'it returns false'. Refute it at one input. -/
def fnUuidReadWrong : ChangeSpec := { name := "fnUuidRead", fn := fun _ => fun
  | [d] => { results := [.lit (.bool false)], args := [d] }
  | _ => none }
def FnUuidReadWrongFalsely : Prop := fnUuidReadRow.holds Try.pinned (OpenSpec.ofChange fnUuidReadWrong)

/-- 'laws.FnUuidText': WHATEVER THE INPUT: true; the input reads as it did. -/
def fnUuidTextSpec : ChangeSpec := { name := "fnUuidText", fn := fun _ => fun
  | [d] => { results := [.lit (.bool true)], args := [d] }
  | _ => none }
def fnUuidTextRow : OpenClaim := { program := "ytnofmiinbmfbnaa", sum := "daa4ec333dcecdc784c0060147b1921805ccfcd38e5584b74489dea3e6f83f4c", func := "loop.example/pub-marksoftime/laws.FnUuidText", spec := "fnUuidText", apart := false }
def FnUuidTextSaid : Prop := fnUuidTextRow.holds Try.pinned (OpenSpec.ofChange fnUuidTextSpec)

/-- ITS FALSE NEIGHBOUR: 'it returns false'. Refute it at one input. -/
def fnUuidTextWrong : ChangeSpec := { name := "fnUuidText", fn := fun _ => fun
  | [d] => { results := [.lit (.bool false)], args := [d] }
  | _ => none }
def FnUuidTextWrongFalsely : Prop := fnUuidTextRow.holds Try.pinned (OpenSpec.ofChange fnUuidTextWrong)

/-- 'laws.FnSpaces': WHATEVER THE INPUT: true; the input reads as it did. -/
def fnSpacesSpec : ChangeSpec := { name := "fnSpaces", fn := fun _ => fun
  | [d] => { results := [.lit (.bool true)], args := [d] }
  | _ => none }
def fnSpacesRow : OpenClaim := { program := "ytnofmiinbmfbnaa", sum := "daa4ec333dcecdc784c0060147b1921805ccfcd38e5584b74489dea3e6f83f4c", func := "loop.example/pub-marksoftime/laws.FnSpaces", spec := "fnSpaces", apart := false }
def FnSpacesSaid : Prop := fnSpacesRow.holds Try.pinned (OpenSpec.ofChange fnSpacesSpec)

/-- ITS FALSE NEIGHBOUR: 'it returns false'. Refute it at one input. -/
def fnSpacesWrong : ChangeSpec := { name := "fnSpaces", fn := fun _ => fun
  | [d] => { results := [.lit (.bool false)], args := [d] }
  | _ => none }
def FnSpacesWrongFalsely : Prop := fnSpacesRow.holds Try.pinned (OpenSpec.ofChange fnSpacesWrong)

/- THE SECOND FORM. 'bulk': how many values and letters a reading holds, each counted each time it is reached (what is shared counts as often as it is met; a slice's spare places count too). A statement '..UptoSaid' is the law's where the arguments, and the package variables that the reading takes, are together of bulk at most 1048576: NARROWER than '..Said'. Prove '..Said' where nothing that the law and all that it calls make is longer than what came in: it says more and counts as full. Else prove '..UptoSaid'. A law counts once. -/
mutual
def uptoBulk {H : Type} : DataW H → Nat
  | .lit (.string bytes) => bytes.length + 1
  | .lit _ => 1
  | .nil => 1
  | .ptr d => uptoBulk d + 1
  | .slice elems spare => uptoBulkAll elems + uptoBulkAll spare + 1
  | .agg parts => uptoBulkAll parts + 1
  | .iface _ d => uptoBulk d + 1
  | .map entries => uptoBulkEntries entries + 1
  | .held _ => 1
def uptoBulkAll {H : Type} : List (DataW H) → Nat
  | [] => 0
  | d :: r => uptoBulk d + uptoBulkAll r
def uptoBulkEntries {H : Type} : List (Lit × DataW H) → Nat
  | [] => 0
  | x :: r => uptoBulkEntry x + uptoBulkEntries r
def uptoBulkEntry {H : Type} : Lit × DataW H → Nat
  | (.string bytes, d) => bytes.length + uptoBulk d + 1
  | (_, d) => uptoBulk d + 1
 end
def uptoSmall : (H : Type) → List (DataW H) → Bool := fun _ ds => decide (uptoBulkAll ds ≤ 1048576)
def OpenSpec.upto (s : _root_.Go.ChangeSpec) : _root_.Go.OpenSpec := { _root_.Go.OpenSpec.ofChange s with cond := some uptoSmall }

/-- 'laws.FnStampTime', WHERE WHAT IT READS IS OF BULK AT MOST 1048576: true; the input reads as it did. -/
def fnStampTimeUptoRow : OpenClaim := { program := "ytnofmiinbmfbnaa", sum := "daa4ec333dcecdc784c0060147b1921805ccfcd38e5584b74489dea3e6f83f4c", func := "loop.example/pub-marksoftime/laws.FnStampTime", spec := "fnStampTime", apart := false, narrowed := true }
def FnStampTimeUptoSaid : Prop := fnStampTimeUptoRow.holds Try.pinned (OpenSpec.upto fnStampTimeSpec)

/-- 'laws.FnUuidSet', WHERE WHAT IT READS IS OF BULK AT MOST 1048576: true; the input reads as it did. -/
def fnUuidSetUptoRow : OpenClaim := { program := "ytnofmiinbmfbnaa", sum := "daa4ec333dcecdc784c0060147b1921805ccfcd38e5584b74489dea3e6f83f4c", func := "loop.example/pub-marksoftime/laws.FnUuidSet", spec := "fnUuidSet", apart := false, narrowed := true }
def FnUuidSetUptoSaid : Prop := fnUuidSetUptoRow.holds Try.pinned (OpenSpec.upto fnUuidSetSpec)

/-- 'laws.FnUuidBytes', WHERE WHAT IT READS IS OF BULK AT MOST 1048576: true; the input reads as it did. -/
def fnUuidBytesUptoRow : OpenClaim := { program := "ytnofmiinbmfbnaa", sum := "daa4ec333dcecdc784c0060147b1921805ccfcd38e5584b74489dea3e6f83f4c", func := "loop.example/pub-marksoftime/laws.FnUuidBytes", spec := "fnUuidBytes", apart := false, narrowed := true }
def FnUuidBytesUptoSaid : Prop := fnUuidBytesUptoRow.holds Try.pinned (OpenSpec.upto fnUuidBytesSpec)

/-- 'laws.FnUuidStamp', WHERE WHAT IT READS IS OF BULK AT MOST 1048576: true; the input reads as it did. -/
def fnUuidStampUptoRow : OpenClaim := { program := "ytnofmiinbmfbnaa", sum := "daa4ec333dcecdc784c0060147b1921805ccfcd38e5584b74489dea3e6f83f4c", func := "loop.example/pub-marksoftime/laws.FnUuidStamp", spec := "fnUuidStamp", apart := false, narrowed := true }
def FnUuidStampUptoSaid : Prop := fnUuidStampUptoRow.holds Try.pinned (OpenSpec.upto fnUuidStampSpec)

/-- 'laws.FnUuidRead', WHERE WHAT IT READS IS OF BULK AT MOST 1048576: true; the input reads as it did. -/
def fnUuidReadUptoRow : OpenClaim := { program := "ytnofmiinbmfbnaa", sum := "daa4ec333dcecdc784c0060147b1921805ccfcd38e5584b74489dea3e6f83f4c", func := "loop.example/pub-marksoftime/laws.FnUuidRead", spec := "fnUuidRead", apart := false, narrowed := true }
def FnUuidReadUptoSaid : Prop := fnUuidReadUptoRow.holds Try.pinned (OpenSpec.upto fnUuidReadSpec)

/-- 'laws.FnUuidText', WHERE WHAT IT READS IS OF BULK AT MOST 1048576: true; the input reads as it did. -/
def fnUuidTextUptoRow : OpenClaim := { program := "ytnofmiinbmfbnaa", sum := "daa4ec333dcecdc784c0060147b1921805ccfcd38e5584b74489dea3e6f83f4c", func := "loop.example/pub-marksoftime/laws.FnUuidText", spec := "fnUuidText", apart := false, narrowed := true }
def FnUuidTextUptoSaid : Prop := fnUuidTextUptoRow.holds Try.pinned (OpenSpec.upto fnUuidTextSpec)

/-- 'laws.FnSpaces', WHERE WHAT IT READS IS OF BULK AT MOST 1048576: true; the input reads as it did. -/
def fnSpacesUptoRow : OpenClaim := { program := "ytnofmiinbmfbnaa", sum := "daa4ec333dcecdc784c0060147b1921805ccfcd38e5584b74489dea3e6f83f4c", func := "loop.example/pub-marksoftime/laws.FnSpaces", spec := "fnSpaces", apart := false, narrowed := true }
def FnSpacesUptoSaid : Prop := fnSpacesUptoRow.holds Try.pinned (OpenSpec.upto fnSpacesSpec)

end Rows
end Go.Proofs.Ytnofmiinbmfbnaa
