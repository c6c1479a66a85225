/-
  No cell of these rows narrows 'for every input' (looked for: loops, veiled, ifaces, maps, wideKeys, modest, calm, conditions, laid).
  DERIVED. THE GIVEN ROWS OF THIS SEAT. 6 by the template 'for every input the law returns true; each argument reads behind the call as it read before'; 0 by the template 'total and deterministic' (their statements: Qxb6000972aTotals.lean).
  GIVEN WITH THE SEED: the statements are not yours to turn. If you find one false, say at which input.
  Laid BY PROGRAM, IN A SANDBOX (cutbox-rows.mjs): the forced cells as the released guide's own fill.sh prints them over the translation 9fea96dc2706b972… (all of the seat's roots in one cut). By AI agents, Wed Nov 11 2026. No macro, syntax, notation, axiom, sorry.
-/
import Derived.Test.Qxb6000972aChecked
import GoSem.Claim
import GoSem.ClaimJoined
import GoSem.ClaimMapViews
import Derived.JoinedTies
import Derived.KernelRfl
namespace Go.Proofs.Qxb6000972a
/- THE CELL 'sum', in the pinned program and in every row, IS THE sha256 OF THE DUMP (.gsa) THAT Qxb6000972aProg.lean LOADS. Nothing in Lean hashes anything: it is a label: what it is worth is what the hold of that sum in a sandbox is worth. -/
noncomputable def Try.pinned : Pinned := { name := "qxb6000972a", sum := "9fea96dc2706b9723d101b7be6fc6ca865dfa9da394291345bcf9270cf6cd9c4", checked := Try.checked }
namespace Rows
def none {H : Type} : Left H := { results := [], args := [] }

/-- 'zzlaws_internal_yamlread_b1.FnTagPrefixIgnoresOtherDeclarations': WHATEVER THE INPUT: true; the input reads as it did. -/
def fnTagPrefixIgnoresOtherDeclarationsSpec : ChangeSpec := { name := "fnTagPrefixIgnoresOtherDeclarations", fn := fun _ => fun
  | [d1, d2, d3, d4, d5] => { results := [.lit (.bool true)], args := [d1, d2, d3, d4, d5] }
  | _ => none }
def fnTagPrefixIgnoresOtherDeclarationsRow : OpenClaim := { program := "qxb6000972a", sum := "9fea96dc2706b9723d101b7be6fc6ca865dfa9da394291345bcf9270cf6cd9c4", func := "example.com/yamerge/yamerge/zzlaws_internal_yamlread_b1.FnTagPrefixIgnoresOtherDeclarations", spec := "fnTagPrefixIgnoresOtherDeclarations", apart := false }
def FnTagPrefixIgnoresOtherDeclarationsSaid : Prop := fnTagPrefixIgnoresOtherDeclarationsRow.holds Try.pinned (OpenSpec.ofChange fnTagPrefixIgnoresOtherDeclarationsSpec)

/-- ITS FALSE NEIGHBOUR: 'it returns false'. Refute it at one input. -/
def fnTagPrefixIgnoresOtherDeclarationsWrong : ChangeSpec := { name := "fnTagPrefixIgnoresOtherDeclarations", fn := fun _ => fun
  | [d1, d2, d3, d4, d5] => { results := [.lit (.bool false)], args := [d1, d2, d3, d4, d5] }
  | _ => none }
def FnTagPrefixIgnoresOtherDeclarationsWrongFalsely : Prop := fnTagPrefixIgnoresOtherDeclarationsRow.holds Try.pinned (OpenSpec.ofChange fnTagPrefixIgnoresOtherDeclarationsWrong)

/-- 'zzlaws_internal_yamlread_b1.FnTagPrefixUndeclaredFallsBackToDefaults': WHATEVER THE INPUT: true; the input reads as it did. -/
def fnTagPrefixUndeclaredFallsBackToDefaultsSpec : ChangeSpec := { name := "fnTagPrefixUndeclaredFallsBackToDefaults", fn := fun _ => fun
  | [d1, d2, d3] => { results := [.lit (.bool true)], args := [d1, d2, d3] }
  | _ => none }
def fnTagPrefixUndeclaredFallsBackToDefaultsRow : OpenClaim := { program := "qxb6000972a", sum := "9fea96dc2706b9723d101b7be6fc6ca865dfa9da394291345bcf9270cf6cd9c4", func := "example.com/yamerge/yamerge/zzlaws_internal_yamlread_b1.FnTagPrefixUndeclaredFallsBackToDefaults", spec := "fnTagPrefixUndeclaredFallsBackToDefaults", apart := false }
def FnTagPrefixUndeclaredFallsBackToDefaultsSaid : Prop := fnTagPrefixUndeclaredFallsBackToDefaultsRow.holds Try.pinned (OpenSpec.ofChange fnTagPrefixUndeclaredFallsBackToDefaultsSpec)

/-- ITS FALSE NEIGHBOUR: 'it returns false'. Refute it at one input. -/
def fnTagPrefixUndeclaredFallsBackToDefaultsWrong : ChangeSpec := { name := "fnTagPrefixUndeclaredFallsBackToDefaults", fn := fun _ => fun
  | [d1, d2, d3] => { results := [.lit (.bool false)], args := [d1, d2, d3] }
  | _ => none }
def FnTagPrefixUndeclaredFallsBackToDefaultsWrongFalsely : Prop := fnTagPrefixUndeclaredFallsBackToDefaultsRow.holds Try.pinned (OpenSpec.ofChange fnTagPrefixUndeclaredFallsBackToDefaultsWrong)

/-- 'zzlaws_internal_yamlread_b1.FnTagPrefixResolvesToValidPrefix': WHATEVER THE INPUT: true; the input reads as it did. -/
def fnTagPrefixResolvesToValidPrefixSpec : ChangeSpec := { name := "fnTagPrefixResolvesToValidPrefix", fn := fun _ => fun
  | [d1, d2, d3] => { results := [.lit (.bool true)], args := [d1, d2, d3] }
  | _ => none }
def fnTagPrefixResolvesToValidPrefixRow : OpenClaim := { program := "qxb6000972a", sum := "9fea96dc2706b9723d101b7be6fc6ca865dfa9da394291345bcf9270cf6cd9c4", func := "example.com/yamerge/yamerge/zzlaws_internal_yamlread_b1.FnTagPrefixResolvesToValidPrefix", spec := "fnTagPrefixResolvesToValidPrefix", inPlace := ["internal/bytealg.IndexByteString"], apart := false }
def FnTagPrefixResolvesToValidPrefixSaid : Prop := fnTagPrefixResolvesToValidPrefixRow.holds Try.pinned (OpenSpec.ofChange fnTagPrefixResolvesToValidPrefixSpec)

/-- ITS FALSE NEIGHBOUR: 'it returns false'. Refute it at one input. -/
def fnTagPrefixResolvesToValidPrefixWrong : ChangeSpec := { name := "fnTagPrefixResolvesToValidPrefix", fn := fun _ => fun
  | [d1, d2, d3] => { results := [.lit (.bool false)], args := [d1, d2, d3] }
  | _ => none }
def FnTagPrefixResolvesToValidPrefixWrongFalsely : Prop := fnTagPrefixResolvesToValidPrefixRow.holds Try.pinned (OpenSpec.ofChange fnTagPrefixResolvesToValidPrefixWrong)

/-- 'zzlaws_internal_yamlread_b1.FnIsTagPrefixMatchesModel': WHATEVER THE INPUT: true; the input reads as it did. -/
def fnIsTagPrefixMatchesModelSpec : ChangeSpec := { name := "fnIsTagPrefixMatchesModel", fn := fun _ => fun
  | [d] => { results := [.lit (.bool true)], args := [d] }
  | _ => none }
def fnIsTagPrefixMatchesModelRow : OpenClaim := { program := "qxb6000972a", sum := "9fea96dc2706b9723d101b7be6fc6ca865dfa9da394291345bcf9270cf6cd9c4", func := "example.com/yamerge/yamerge/zzlaws_internal_yamlread_b1.FnIsTagPrefixMatchesModel", spec := "fnIsTagPrefixMatchesModel", inPlace := ["internal/bytealg.IndexByteString"], apart := false }
def FnIsTagPrefixMatchesModelSaid : Prop := fnIsTagPrefixMatchesModelRow.holds Try.pinned (OpenSpec.ofChange fnIsTagPrefixMatchesModelSpec)

/-- ITS FALSE NEIGHBOUR: 'it returns false'. Refute it at one input. -/
def fnIsTagPrefixMatchesModelWrong : ChangeSpec := { name := "fnIsTagPrefixMatchesModel", fn := fun _ => fun
  | [d] => { results := [.lit (.bool false)], args := [d] }
  | _ => none }
def FnIsTagPrefixMatchesModelWrongFalsely : Prop := fnIsTagPrefixMatchesModelRow.holds Try.pinned (OpenSpec.ofChange fnIsTagPrefixMatchesModelWrong)

/-- 'zzlaws_internal_yamlread_b1.FnIsTagPrefixConcatenation': WHATEVER THE INPUT: true; the input reads as it did. -/
def fnIsTagPrefixConcatenationSpec : ChangeSpec := { name := "fnIsTagPrefixConcatenation", fn := fun _ => fun
  | [d1, d2] => { results := [.lit (.bool true)], args := [d1, d2] }
  | _ => none }
def fnIsTagPrefixConcatenationRow : OpenClaim := { program := "qxb6000972a", sum := "9fea96dc2706b9723d101b7be6fc6ca865dfa9da394291345bcf9270cf6cd9c4", func := "example.com/yamerge/yamerge/zzlaws_internal_yamlread_b1.FnIsTagPrefixConcatenation", spec := "fnIsTagPrefixConcatenation", inPlace := ["internal/bytealg.IndexByteString"], apart := false }
def FnIsTagPrefixConcatenationSaid : Prop := fnIsTagPrefixConcatenationRow.holds Try.pinned (OpenSpec.ofChange fnIsTagPrefixConcatenationSpec)

/-- ITS FALSE NEIGHBOUR: 'it returns false'. Refute it at one input. -/
def fnIsTagPrefixConcatenationWrong : ChangeSpec := { name := "fnIsTagPrefixConcatenation", fn := fun _ => fun
  | [d1, d2] => { results := [.lit (.bool false)], args := [d1, d2] }
  | _ => none }
def FnIsTagPrefixConcatenationWrongFalsely : Prop := fnIsTagPrefixConcatenationRow.holds Try.pinned (OpenSpec.ofChange fnIsTagPrefixConcatenationWrong)

/-- 'zzlaws_internal_yamlread_b1.FnIsTagPrefixPrefixClosed': WHATEVER THE INPUT: true; the input reads as it did. -/
def fnIsTagPrefixPrefixClosedSpec : ChangeSpec := { name := "fnIsTagPrefixPrefixClosed", fn := fun _ => fun
  | [d1, d2] => { results := [.lit (.bool true)], args := [d1, d2] }
  | _ => none }
def fnIsTagPrefixPrefixClosedRow : OpenClaim := { program := "qxb6000972a", sum := "9fea96dc2706b9723d101b7be6fc6ca865dfa9da394291345bcf9270cf6cd9c4", func := "example.com/yamerge/yamerge/zzlaws_internal_yamlread_b1.FnIsTagPrefixPrefixClosed", spec := "fnIsTagPrefixPrefixClosed", inPlace := ["internal/bytealg.IndexByteString"], apart := false }
def FnIsTagPrefixPrefixClosedSaid : Prop := fnIsTagPrefixPrefixClosedRow.holds Try.pinned (OpenSpec.ofChange fnIsTagPrefixPrefixClosedSpec)

/-- ITS FALSE NEIGHBOUR: 'it returns false'. Refute it at one input. -/
def fnIsTagPrefixPrefixClosedWrong : ChangeSpec := { name := "fnIsTagPrefixPrefixClosed", fn := fun _ => fun
  | [d1, d2] => { results := [.lit (.bool false)], args := [d1, d2] }
  | _ => none }
def FnIsTagPrefixPrefixClosedWrongFalsely : Prop := fnIsTagPrefixPrefixClosedRow.holds Try.pinned (OpenSpec.ofChange fnIsTagPrefixPrefixClosedWrong)

end Rows
end Go.Proofs.Qxb6000972a
