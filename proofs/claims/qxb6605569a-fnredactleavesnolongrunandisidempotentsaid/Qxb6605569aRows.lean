/-
  No cell of these rows narrows 'for every input' (looked for: loops, veiled, ifaces, maps, wideKeys, modest, calm, conditions, laid).
  DERIVED. THE GIVEN ROWS OF THIS SEAT. 3 by the template 'for every input the law returns true; each argument reads behind the call as it read before'; 0 by the template 'total and deterministic' (their statements: Qxb6605569aTotals.lean).
  GIVEN WITH THE SEED: the statements are not yours to turn. If you find one false, say at which input.
  Laid BY PROGRAM, IN A SANDBOX (cutbox-rows.mjs): the forced cells as the released guide's own fill.sh prints them over the translation 1e07afea5b6b208e… (all of the seat's roots in one cut). By AI agents, Wed Nov 11 2026. No macro, syntax, notation, axiom, sorry.
-/
import Derived.Test.Qxb6605569aChecked
import GoSem.Claim
import GoSem.ClaimJoined
import GoSem.ClaimMapViews
import Derived.JoinedTies
import Derived.KernelRfl
namespace Go.Proofs.Qxb6605569a
/- THE CELL 'sum', in the pinned program and in every row, IS THE sha256 OF THE DUMP (.gsa) THAT Qxb6605569aProg.lean LOADS. Nothing in Lean hashes anything: it is a label: what it is worth is what the hold of that sum in a sandbox is worth. -/
noncomputable def Try.pinned : Pinned := { name := "qxb6605569a", sum := "1e07afea5b6b208e0fd2c01d6de60f98942b4a080e18715ac877c2d687e7dd1f", checked := Try.checked }
namespace Rows
def none {H : Type} : Left H := { results := [], args := [] }

/-- 'zzlaws_internal_parse_b1.FnRedactMatchesRunModel': WHATEVER THE INPUT: true; the input reads as it did. -/
def fnRedactMatchesRunModelSpec : ChangeSpec := { name := "fnRedactMatchesRunModel", fn := fun _ => fun
  | [d] => { results := [.lit (.bool true)], args := [d] }
  | _ => none }
def fnRedactMatchesRunModelRow : OpenClaim := { program := "qxb6605569a", sum := "1e07afea5b6b208e0fd2c01d6de60f98942b4a080e18715ac877c2d687e7dd1f", func := "example.com/kapu/kapu/zzlaws_internal_parse_b1.FnRedactMatchesRunModel", spec := "fnRedactMatchesRunModel", inPlace := ["internal/abi.NoEscape"], apart := false }
def FnRedactMatchesRunModelSaid : Prop := fnRedactMatchesRunModelRow.holds Try.pinned (OpenSpec.ofChange fnRedactMatchesRunModelSpec)

/-- ITS FALSE NEIGHBOUR: 'it returns false'. Refute it at one input. -/
def fnRedactMatchesRunModelWrong : ChangeSpec := { name := "fnRedactMatchesRunModel", fn := fun _ => fun
  | [d] => { results := [.lit (.bool false)], args := [d] }
  | _ => none }
def FnRedactMatchesRunModelWrongFalsely : Prop := fnRedactMatchesRunModelRow.holds Try.pinned (OpenSpec.ofChange fnRedactMatchesRunModelWrong)

/-- 'zzlaws_internal_parse_b1.FnRedactWorksRunByRun': WHATEVER THE INPUT: true; the input reads as it did. -/
def fnRedactWorksRunByRunSpec : ChangeSpec := { name := "fnRedactWorksRunByRun", fn := fun _ => fun
  | [d1, d2, d3, d4, d5] => { results := [.lit (.bool true)], args := [d1, d2, d3, d4, d5] }
  | _ => none }
def fnRedactWorksRunByRunRow : OpenClaim := { program := "qxb6605569a", sum := "1e07afea5b6b208e0fd2c01d6de60f98942b4a080e18715ac877c2d687e7dd1f", func := "example.com/kapu/kapu/zzlaws_internal_parse_b1.FnRedactWorksRunByRun", spec := "fnRedactWorksRunByRun", inPlace := ["internal/abi.NoEscape"], apart := false }
def FnRedactWorksRunByRunSaid : Prop := fnRedactWorksRunByRunRow.holds Try.pinned (OpenSpec.ofChange fnRedactWorksRunByRunSpec)

/-- ITS FALSE NEIGHBOUR: 'it returns false'. Refute it at one input. -/
def fnRedactWorksRunByRunWrong : ChangeSpec := { name := "fnRedactWorksRunByRun", fn := fun _ => fun
  | [d1, d2, d3, d4, d5] => { results := [.lit (.bool false)], args := [d1, d2, d3, d4, d5] }
  | _ => none }
def FnRedactWorksRunByRunWrongFalsely : Prop := fnRedactWorksRunByRunRow.holds Try.pinned (OpenSpec.ofChange fnRedactWorksRunByRunWrong)

/-- 'zzlaws_internal_parse_b1.FnRedactLeavesNoLongRunAndIsIdempotent': WHATEVER THE INPUT: true; the input reads as it did. -/
def fnRedactLeavesNoLongRunAndIsIdempotentSpec : ChangeSpec := { name := "fnRedactLeavesNoLongRunAndIsIdempotent", fn := fun _ => fun
  | [d] => { results := [.lit (.bool true)], args := [d] }
  | _ => none }
def fnRedactLeavesNoLongRunAndIsIdempotentRow : OpenClaim := { program := "qxb6605569a", sum := "1e07afea5b6b208e0fd2c01d6de60f98942b4a080e18715ac877c2d687e7dd1f", func := "example.com/kapu/kapu/zzlaws_internal_parse_b1.FnRedactLeavesNoLongRunAndIsIdempotent", spec := "fnRedactLeavesNoLongRunAndIsIdempotent", inPlace := ["internal/abi.NoEscape"], apart := false }
def FnRedactLeavesNoLongRunAndIsIdempotentSaid : Prop := fnRedactLeavesNoLongRunAndIsIdempotentRow.holds Try.pinned (OpenSpec.ofChange fnRedactLeavesNoLongRunAndIsIdempotentSpec)

/-- ITS FALSE NEIGHBOUR: 'it returns false'. Refute it at one input. -/
def fnRedactLeavesNoLongRunAndIsIdempotentWrong : ChangeSpec := { name := "fnRedactLeavesNoLongRunAndIsIdempotent", fn := fun _ => fun
  | [d] => { results := [.lit (.bool false)], args := [d] }
  | _ => none }
def FnRedactLeavesNoLongRunAndIsIdempotentWrongFalsely : Prop := fnRedactLeavesNoLongRunAndIsIdempotentRow.holds Try.pinned (OpenSpec.ofChange fnRedactLeavesNoLongRunAndIsIdempotentWrong)

end Rows
end Go.Proofs.Qxb6605569a
