/-
  No cell of these rows narrows 'for every input' (looked for: loops, veiled, ifaces, maps, wideKeys, modest, calm, conditions, laid).
  DERIVED. THE GIVEN ROWS OF THIS SEAT. 5 by the template 'for every input the law returns true; each argument reads behind the call as it read before'; 0 by the template 'total and deterministic' (their statements: Qxb6000014aTotals.lean).
  GIVEN WITH THE SEED: the statements are not yours to turn. If you find one false, say at which input.
  Laid BY PROGRAM, IN A SANDBOX (cutbox-rows.mjs): the forced cells as the released guide's own fill.sh prints them over the translation 1442fc25fd9dfa38… (all of the seat's roots in one cut). By AI agents, Wed Nov 11 2026. No macro, syntax, notation, axiom, sorry.
-/
import Derived.Test.Qxb6000014aChecked
import GoSem.Claim
import GoSem.ClaimJoined
import GoSem.ClaimMapViews
import Derived.JoinedTies
import Derived.KernelRfl
namespace Go.Proofs.Qxb6000014a
/- THE CELL 'sum', in the pinned program and in every row, IS THE sha256 OF THE DUMP (.gsa) THAT Qxb6000014aProg.lean LOADS. Nothing in Lean hashes anything: it is a label: what it is worth is what the hold of that sum in a sandbox is worth. -/
noncomputable def Try.pinned : Pinned := { name := "qxb6000014a", sum := "1442fc25fd9dfa3864a4a51eb25bf0b54191365983bd6f26a4df90faed568a6d", checked := Try.checked }
namespace Rows
def none {H : Type} : Left H := { results := [], args := [] }

/-- 'zzlaws_root_b1.FnUnquoteWordsMatchesScanner': WHATEVER THE INPUT: true; the input reads as it did. -/
def fnUnquoteWordsMatchesScannerSpec : ChangeSpec := { name := "fnUnquoteWordsMatchesScanner", fn := fun _ => fun
  | [d] => { results := [.lit (.bool true)], args := [d] }
  | _ => none }
def fnUnquoteWordsMatchesScannerRow : OpenClaim := { program := "qxb6000014a", sum := "1442fc25fd9dfa3864a4a51eb25bf0b54191365983bd6f26a4df90faed568a6d", func := "example.com/addrwright/addrwright/zzlaws_root_b1.FnUnquoteWordsMatchesScanner", spec := "fnUnquoteWordsMatchesScanner", inPlace := ["internal/bytealg.IndexByteString", "internal/abi.NoEscape", "internal/bytealg.MakeNoZero"], apart := false }
def FnUnquoteWordsMatchesScannerSaid : Prop := fnUnquoteWordsMatchesScannerRow.holds Try.pinned (OpenSpec.ofChange fnUnquoteWordsMatchesScannerSpec)

/-- ITS FALSE NEIGHBOUR: 'it returns false'. Refute it at one input. -/
def fnUnquoteWordsMatchesScannerWrong : ChangeSpec := { name := "fnUnquoteWordsMatchesScanner", fn := fun _ => fun
  | [d] => { results := [.lit (.bool false)], args := [d] }
  | _ => none }
def FnUnquoteWordsMatchesScannerWrongFalsely : Prop := fnUnquoteWordsMatchesScannerRow.holds Try.pinned (OpenSpec.ofChange fnUnquoteWordsMatchesScannerWrong)

/-- 'zzlaws_root_b1.FnUnquoteWordsUndoesQuoting': WHATEVER THE INPUT: true; the input reads as it did. -/
def fnUnquoteWordsUndoesQuotingSpec : ChangeSpec := { name := "fnUnquoteWordsUndoesQuoting", fn := fun _ => fun
  | [d1, d2, d3] => { results := [.lit (.bool true)], args := [d1, d2, d3] }
  | _ => none }
def fnUnquoteWordsUndoesQuotingRow : OpenClaim := { program := "qxb6000014a", sum := "1442fc25fd9dfa3864a4a51eb25bf0b54191365983bd6f26a4df90faed568a6d", func := "example.com/addrwright/addrwright/zzlaws_root_b1.FnUnquoteWordsUndoesQuoting", spec := "fnUnquoteWordsUndoesQuoting", inPlace := ["internal/bytealg.IndexByteString", "internal/abi.NoEscape", "internal/bytealg.MakeNoZero"], apart := false }
def FnUnquoteWordsUndoesQuotingSaid : Prop := fnUnquoteWordsUndoesQuotingRow.holds Try.pinned (OpenSpec.ofChange fnUnquoteWordsUndoesQuotingSpec)

/-- ITS FALSE NEIGHBOUR: 'it returns false'. Refute it at one input. -/
def fnUnquoteWordsUndoesQuotingWrong : ChangeSpec := { name := "fnUnquoteWordsUndoesQuoting", fn := fun _ => fun
  | [d1, d2, d3] => { results := [.lit (.bool false)], args := [d1, d2, d3] }
  | _ => none }
def FnUnquoteWordsUndoesQuotingWrongFalsely : Prop := fnUnquoteWordsUndoesQuotingRow.holds Try.pinned (OpenSpec.ofChange fnUnquoteWordsUndoesQuotingWrong)

/-- 'zzlaws_root_b1.FnReadLocalPartReadsBuiltPath': WHATEVER THE INPUT: true; the input reads as it did. -/
def fnReadLocalPartReadsBuiltPathSpec : ChangeSpec := { name := "fnReadLocalPartReadsBuiltPath", fn := fun _ => fun
  | [d1, d2, d3, d4] => { results := [.lit (.bool true)], args := [d1, d2, d3, d4] }
  | _ => none }
def fnReadLocalPartReadsBuiltPathRow : OpenClaim := { program := "qxb6000014a", sum := "1442fc25fd9dfa3864a4a51eb25bf0b54191365983bd6f26a4df90faed568a6d", func := "example.com/addrwright/addrwright/zzlaws_root_b1.FnReadLocalPartReadsBuiltPath", spec := "fnReadLocalPartReadsBuiltPath", inPlace := ["internal/bytealg.IndexByteString", "internal/bytealg.IndexString"], named := ["internal/bytealg.MaxLen"], apart := false }
def FnReadLocalPartReadsBuiltPathSaid : Prop := fnReadLocalPartReadsBuiltPathRow.holds Try.pinned (OpenSpec.ofChange fnReadLocalPartReadsBuiltPathSpec)

/-- ITS FALSE NEIGHBOUR: 'it returns false'. Refute it at one input. -/
def fnReadLocalPartReadsBuiltPathWrong : ChangeSpec := { name := "fnReadLocalPartReadsBuiltPath", fn := fun _ => fun
  | [d1, d2, d3, d4] => { results := [.lit (.bool false)], args := [d1, d2, d3, d4] }
  | _ => none }
def FnReadLocalPartReadsBuiltPathWrongFalsely : Prop := fnReadLocalPartReadsBuiltPathRow.holds Try.pinned (OpenSpec.ofChange fnReadLocalPartReadsBuiltPathWrong)

/-- 'zzlaws_root_b1.FnReadLocalPartRestReadsNoFurther': WHATEVER THE INPUT: true; the input reads as it did. -/
def fnReadLocalPartRestReadsNoFurtherSpec : ChangeSpec := { name := "fnReadLocalPartRestReadsNoFurther", fn := fun _ => fun
  | [d1, d2] => { results := [.lit (.bool true)], args := [d1, d2] }
  | _ => none }
def fnReadLocalPartRestReadsNoFurtherRow : OpenClaim := { program := "qxb6000014a", sum := "1442fc25fd9dfa3864a4a51eb25bf0b54191365983bd6f26a4df90faed568a6d", func := "example.com/addrwright/addrwright/zzlaws_root_b1.FnReadLocalPartRestReadsNoFurther", spec := "fnReadLocalPartRestReadsNoFurther", inPlace := ["internal/bytealg.IndexByteString", "internal/bytealg.IndexString"], named := ["internal/bytealg.MaxLen"], apart := false }
def FnReadLocalPartRestReadsNoFurtherSaid : Prop := fnReadLocalPartRestReadsNoFurtherRow.holds Try.pinned (OpenSpec.ofChange fnReadLocalPartRestReadsNoFurtherSpec)

/-- ITS FALSE NEIGHBOUR: 'it returns false'. Refute it at one input. -/
def fnReadLocalPartRestReadsNoFurtherWrong : ChangeSpec := { name := "fnReadLocalPartRestReadsNoFurther", fn := fun _ => fun
  | [d1, d2] => { results := [.lit (.bool false)], args := [d1, d2] }
  | _ => none }
def FnReadLocalPartRestReadsNoFurtherWrongFalsely : Prop := fnReadLocalPartRestReadsNoFurtherRow.holds Try.pinned (OpenSpec.ofChange fnReadLocalPartRestReadsNoFurtherWrong)

/-- 'zzlaws_root_b1.FnReadLocalPartSpendsASeparatorAndANamePerHop': WHATEVER THE INPUT: true; the input reads as it did. -/
def fnReadLocalPartSpendsASeparatorAndANamePerHopSpec : ChangeSpec := { name := "fnReadLocalPartSpendsASeparatorAndANamePerHop", fn := fun _ => fun
  | [d1, d2] => { results := [.lit (.bool true)], args := [d1, d2] }
  | _ => none }
def fnReadLocalPartSpendsASeparatorAndANamePerHopRow : OpenClaim := { program := "qxb6000014a", sum := "1442fc25fd9dfa3864a4a51eb25bf0b54191365983bd6f26a4df90faed568a6d", func := "example.com/addrwright/addrwright/zzlaws_root_b1.FnReadLocalPartSpendsASeparatorAndANamePerHop", spec := "fnReadLocalPartSpendsASeparatorAndANamePerHop", inPlace := ["internal/bytealg.IndexByteString", "internal/bytealg.IndexString"], named := ["internal/bytealg.MaxLen"], apart := false }
def FnReadLocalPartSpendsASeparatorAndANamePerHopSaid : Prop := fnReadLocalPartSpendsASeparatorAndANamePerHopRow.holds Try.pinned (OpenSpec.ofChange fnReadLocalPartSpendsASeparatorAndANamePerHopSpec)

/-- ITS FALSE NEIGHBOUR: 'it returns false'. Refute it at one input. -/
def fnReadLocalPartSpendsASeparatorAndANamePerHopWrong : ChangeSpec := { name := "fnReadLocalPartSpendsASeparatorAndANamePerHop", fn := fun _ => fun
  | [d1, d2] => { results := [.lit (.bool false)], args := [d1, d2] }
  | _ => none }
def FnReadLocalPartSpendsASeparatorAndANamePerHopWrongFalsely : Prop := fnReadLocalPartSpendsASeparatorAndANamePerHopRow.holds Try.pinned (OpenSpec.ofChange fnReadLocalPartSpendsASeparatorAndANamePerHopWrong)

end Rows
end Go.Proofs.Qxb6000014a
