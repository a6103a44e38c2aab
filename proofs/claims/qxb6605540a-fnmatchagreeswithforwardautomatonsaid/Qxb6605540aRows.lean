/-
  No cell of these rows narrows 'for every input' (looked for: loops, veiled, ifaces, maps, wideKeys, modest, calm, conditions, laid).
  DERIVED. THE GIVEN ROWS OF THIS SEAT. 4 by the template 'for every input the law returns true; each argument reads behind the call as it read before'; 0 by the template 'total and deterministic' (their statements: Qxb6605540aTotals.lean).
  GIVEN WITH THE SEED: the statements are not yours to turn. If you find one false, say at which input.
  Laid BY PROGRAM, IN A SANDBOX (cutbox-rows.mjs): the forced cells as the released guide's own fill.sh prints them over the translation 36f73b9e476a189b… (all of the seat's roots in one cut). By AI agents, Wed Nov 11 2026. No macro, syntax, notation, axiom, sorry.
-/
import Derived.Test.Qxb6605540aChecked
import GoSem.Claim
import GoSem.ClaimJoined
import GoSem.ClaimMapViews
import Derived.JoinedTies
import Derived.KernelRfl
namespace Go.Proofs.Qxb6605540a
/- THE CELL 'sum', in the pinned program and in every row, IS THE sha256 OF THE DUMP (.gsa) THAT Qxb6605540aProg.lean LOADS. Nothing in Lean hashes anything: it is a label: what it is worth is what the hold of that sum in a sandbox is worth. -/
noncomputable def Try.pinned : Pinned := { name := "qxb6605540a", sum := "36f73b9e476a189bde3d58601c00abcf1e9b0b5cf105c0d5830106db2f1a4a6f", checked := Try.checked }
namespace Rows
def none {H : Type} : Left H := { results := [], args := [] }

/-- 'zzlaws_internal_ignore_b1.FnMatchAgreesWithForwardAutomaton': WHATEVER THE INPUT: true; the input reads as it did. -/
def fnMatchAgreesWithForwardAutomatonSpec : ChangeSpec := { name := "fnMatchAgreesWithForwardAutomaton", fn := fun _ => fun
  | [d1, d2, d3, d4] => { results := [.lit (.bool true)], args := [d1, d2, d3, d4] }
  | _ => none }
def fnMatchAgreesWithForwardAutomatonRow : OpenClaim := { program := "qxb6605540a", sum := "36f73b9e476a189bde3d58601c00abcf1e9b0b5cf105c0d5830106db2f1a4a6f", func := "example.com/stackhaven/stackhaven/zzlaws_internal_ignore_b1.FnMatchAgreesWithForwardAutomaton", spec := "fnMatchAgreesWithForwardAutomaton", apart := false }
def FnMatchAgreesWithForwardAutomatonSaid : Prop := fnMatchAgreesWithForwardAutomatonRow.holds Try.pinned (OpenSpec.ofChange fnMatchAgreesWithForwardAutomatonSpec)

/-- ITS FALSE NEIGHBOUR: 'it returns false'. Refute it at one input. -/
def fnMatchAgreesWithForwardAutomatonWrong : ChangeSpec := { name := "fnMatchAgreesWithForwardAutomaton", fn := fun _ => fun
  | [d1, d2, d3, d4] => { results := [.lit (.bool false)], args := [d1, d2, d3, d4] }
  | _ => none }
def FnMatchAgreesWithForwardAutomatonWrongFalsely : Prop := fnMatchAgreesWithForwardAutomatonRow.holds Try.pinned (OpenSpec.ofChange fnMatchAgreesWithForwardAutomatonWrong)

/-- 'zzlaws_internal_ignore_b1.FnMatchClosedFormsByShape': WHATEVER THE INPUT: true; the input reads as it did. -/
def fnMatchClosedFormsByShapeSpec : ChangeSpec := { name := "fnMatchClosedFormsByShape", fn := fun _ => fun
  | [d1, d2] => { results := [.lit (.bool true)], args := [d1, d2] }
  | _ => none }
def fnMatchClosedFormsByShapeRow : OpenClaim := { program := "qxb6605540a", sum := "36f73b9e476a189bde3d58601c00abcf1e9b0b5cf105c0d5830106db2f1a4a6f", func := "example.com/stackhaven/stackhaven/zzlaws_internal_ignore_b1.FnMatchClosedFormsByShape", spec := "fnMatchClosedFormsByShape", apart := false }
def FnMatchClosedFormsByShapeSaid : Prop := fnMatchClosedFormsByShapeRow.holds Try.pinned (OpenSpec.ofChange fnMatchClosedFormsByShapeSpec)

/-- ITS FALSE NEIGHBOUR: 'it returns false'. Refute it at one input. -/
def fnMatchClosedFormsByShapeWrong : ChangeSpec := { name := "fnMatchClosedFormsByShape", fn := fun _ => fun
  | [d1, d2] => { results := [.lit (.bool false)], args := [d1, d2] }
  | _ => none }
def FnMatchClosedFormsByShapeWrongFalsely : Prop := fnMatchClosedFormsByShapeRow.holds Try.pinned (OpenSpec.ofChange fnMatchClosedFormsByShapeWrong)

/-- 'zzlaws_internal_ignore_b1.FnTrimTrailingSpacesByParityFromTheRight': WHATEVER THE INPUT: true; the input reads as it did. -/
def fnTrimTrailingSpacesByParityFromTheRightSpec : ChangeSpec := { name := "fnTrimTrailingSpacesByParityFromTheRight", fn := fun _ => fun
  | [d] => { results := [.lit (.bool true)], args := [d] }
  | _ => none }
def fnTrimTrailingSpacesByParityFromTheRightRow : OpenClaim := { program := "qxb6605540a", sum := "36f73b9e476a189bde3d58601c00abcf1e9b0b5cf105c0d5830106db2f1a4a6f", func := "example.com/stackhaven/stackhaven/zzlaws_internal_ignore_b1.FnTrimTrailingSpacesByParityFromTheRight", spec := "fnTrimTrailingSpacesByParityFromTheRight", apart := false }
def FnTrimTrailingSpacesByParityFromTheRightSaid : Prop := fnTrimTrailingSpacesByParityFromTheRightRow.holds Try.pinned (OpenSpec.ofChange fnTrimTrailingSpacesByParityFromTheRightSpec)

/-- ITS FALSE NEIGHBOUR: 'it returns false'. Refute it at one input. -/
def fnTrimTrailingSpacesByParityFromTheRightWrong : ChangeSpec := { name := "fnTrimTrailingSpacesByParityFromTheRight", fn := fun _ => fun
  | [d] => { results := [.lit (.bool false)], args := [d] }
  | _ => none }
def FnTrimTrailingSpacesByParityFromTheRightWrongFalsely : Prop := fnTrimTrailingSpacesByParityFromTheRightRow.holds Try.pinned (OpenSpec.ofChange fnTrimTrailingSpacesByParityFromTheRightWrong)

/-- 'zzlaws_internal_ignore_b1.FnIgnoredByDeepestLastMatch': WHATEVER THE INPUT: true; the input reads as it did. -/
def fnIgnoredByDeepestLastMatchSpec : ChangeSpec := { name := "fnIgnoredByDeepestLastMatch", fn := fun _ => fun
  | [d1, d2, d3, d4, d5, d6, d7, d8, d9] => { results := [.lit (.bool true)], args := [d1, d2, d3, d4, d5, d6, d7, d8, d9] }
  | _ => none }
def fnIgnoredByDeepestLastMatchRow : OpenClaim := { program := "qxb6605540a", sum := "36f73b9e476a189bde3d58601c00abcf1e9b0b5cf105c0d5830106db2f1a4a6f", func := "example.com/stackhaven/stackhaven/zzlaws_internal_ignore_b1.FnIgnoredByDeepestLastMatch", spec := "fnIgnoredByDeepestLastMatch", apart := false }
def FnIgnoredByDeepestLastMatchSaid : Prop := fnIgnoredByDeepestLastMatchRow.holds Try.pinned (OpenSpec.ofChange fnIgnoredByDeepestLastMatchSpec)

/-- ITS FALSE NEIGHBOUR: 'it returns false'. Refute it at one input. -/
def fnIgnoredByDeepestLastMatchWrong : ChangeSpec := { name := "fnIgnoredByDeepestLastMatch", fn := fun _ => fun
  | [d1, d2, d3, d4, d5, d6, d7, d8, d9] => { results := [.lit (.bool false)], args := [d1, d2, d3, d4, d5, d6, d7, d8, d9] }
  | _ => none }
def FnIgnoredByDeepestLastMatchWrongFalsely : Prop := fnIgnoredByDeepestLastMatchRow.holds Try.pinned (OpenSpec.ofChange fnIgnoredByDeepestLastMatchWrong)

end Rows
end Go.Proofs.Qxb6605540a
