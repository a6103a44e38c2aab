/-
  No cell of these rows narrows 'for every input' (looked for: loops, veiled, ifaces, maps, wideKeys, modest, calm, conditions, laid).
  DERIVED. THE GIVEN ROWS OF THIS SEAT. 8 by the template 'for every input the law returns true; each argument reads behind the call as it read before'; 0 by the template 'total and deterministic' (their statements: Qxb6600526aTotals.lean).
  GIVEN WITH THE SEED: the statements are not yours to turn. If you find one false, say at which input.
  Laid BY PROGRAM, IN A SANDBOX (cutbox-rows.mjs): the forced cells as the released guide's own fill.sh prints them over the translation 32d55f1b15916c4d… (all of the seat's roots in one cut). By AI agents, Wed Nov 11 2026. No macro, syntax, notation, axiom, sorry.
-/
import Derived.Test.Qxb6600526aChecked
import GoSem.Claim
import GoSem.ClaimJoined
import GoSem.ClaimMapViews
import Derived.JoinedTies
import Derived.KernelRfl
namespace Go.Proofs.Qxb6600526a
/- THE CELL 'sum', in the pinned program and in every row, IS THE sha256 OF THE DUMP (.gsa) THAT Qxb6600526aProg.lean LOADS. Nothing in Lean hashes anything: it is a label: what it is worth is what the hold of that sum in a sandbox is worth. -/
noncomputable def Try.pinned : Pinned := { name := "qxb6600526a", sum := "32d55f1b15916c4d8693eeb11ee0cfcf4964d92b6d9e71ca77684835aeb5f74e", checked := Try.checked }
namespace Rows
def none {H : Type} : Left H := { results := [], args := [] }

/-- 'zzlaws_root_b1.FnMatchPatternAgreesWithTable': WHATEVER THE INPUT: true; the input reads as it did. -/
def fnMatchPatternAgreesWithTableSpec : ChangeSpec := { name := "fnMatchPatternAgreesWithTable", fn := fun _ => fun
  | [d1, d2] => { results := [.lit (.bool true)], args := [d1, d2] }
  | _ => none }
def fnMatchPatternAgreesWithTableRow : OpenClaim := { program := "qxb6600526a", sum := "32d55f1b15916c4d8693eeb11ee0cfcf4964d92b6d9e71ca77684835aeb5f74e", func := "example.com/naysayr/naysayr/zzlaws_root_b1.FnMatchPatternAgreesWithTable", spec := "fnMatchPatternAgreesWithTable", inPlace := ["internal/bytealg.IndexByteString", "internal/bytealg.IndexString"], named := ["internal/bytealg.MaxLen"], apart := false }
def FnMatchPatternAgreesWithTableSaid : Prop := fnMatchPatternAgreesWithTableRow.holds Try.pinned (OpenSpec.ofChange fnMatchPatternAgreesWithTableSpec)

/-- ITS FALSE NEIGHBOUR: 'it returns false'. Refute it at one input. -/
def fnMatchPatternAgreesWithTableWrong : ChangeSpec := { name := "fnMatchPatternAgreesWithTable", fn := fun _ => fun
  | [d1, d2] => { results := [.lit (.bool false)], args := [d1, d2] }
  | _ => none }
def FnMatchPatternAgreesWithTableWrongFalsely : Prop := fnMatchPatternAgreesWithTableRow.holds Try.pinned (OpenSpec.ofChange fnMatchPatternAgreesWithTableWrong)

/-- 'zzlaws_root_b1.FnMatchPatternReadsTheSameBackwards': WHATEVER THE INPUT: true; the input reads as it did. -/
def fnMatchPatternReadsTheSameBackwardsSpec : ChangeSpec := { name := "fnMatchPatternReadsTheSameBackwards", fn := fun _ => fun
  | [d1, d2] => { results := [.lit (.bool true)], args := [d1, d2] }
  | _ => none }
def fnMatchPatternReadsTheSameBackwardsRow : OpenClaim := { program := "qxb6600526a", sum := "32d55f1b15916c4d8693eeb11ee0cfcf4964d92b6d9e71ca77684835aeb5f74e", func := "example.com/naysayr/naysayr/zzlaws_root_b1.FnMatchPatternReadsTheSameBackwards", spec := "fnMatchPatternReadsTheSameBackwards", inPlace := ["internal/bytealg.IndexByteString", "internal/bytealg.IndexString"], named := ["internal/bytealg.MaxLen"], apart := false }
def FnMatchPatternReadsTheSameBackwardsSaid : Prop := fnMatchPatternReadsTheSameBackwardsRow.holds Try.pinned (OpenSpec.ofChange fnMatchPatternReadsTheSameBackwardsSpec)

/-- ITS FALSE NEIGHBOUR: 'it returns false'. Refute it at one input. -/
def fnMatchPatternReadsTheSameBackwardsWrong : ChangeSpec := { name := "fnMatchPatternReadsTheSameBackwards", fn := fun _ => fun
  | [d1, d2] => { results := [.lit (.bool false)], args := [d1, d2] }
  | _ => none }
def FnMatchPatternReadsTheSameBackwardsWrongFalsely : Prop := fnMatchPatternReadsTheSameBackwardsRow.holds Try.pinned (OpenSpec.ofChange fnMatchPatternReadsTheSameBackwardsWrong)

/-- 'zzlaws_root_b1.FnMatchPatternStarWidens': WHATEVER THE INPUT: true; the input reads as it did. -/
def fnMatchPatternStarWidensSpec : ChangeSpec := { name := "fnMatchPatternStarWidens", fn := fun _ => fun
  | [d1, d2, d3] => { results := [.lit (.bool true)], args := [d1, d2, d3] }
  | _ => none }
def fnMatchPatternStarWidensRow : OpenClaim := { program := "qxb6600526a", sum := "32d55f1b15916c4d8693eeb11ee0cfcf4964d92b6d9e71ca77684835aeb5f74e", func := "example.com/naysayr/naysayr/zzlaws_root_b1.FnMatchPatternStarWidens", spec := "fnMatchPatternStarWidens", inPlace := ["internal/bytealg.IndexByteString", "internal/bytealg.IndexString"], named := ["internal/bytealg.MaxLen"], apart := false }
def FnMatchPatternStarWidensSaid : Prop := fnMatchPatternStarWidensRow.holds Try.pinned (OpenSpec.ofChange fnMatchPatternStarWidensSpec)

/-- ITS FALSE NEIGHBOUR: 'it returns false'. Refute it at one input. -/
def fnMatchPatternStarWidensWrong : ChangeSpec := { name := "fnMatchPatternStarWidens", fn := fun _ => fun
  | [d1, d2, d3] => { results := [.lit (.bool false)], args := [d1, d2, d3] }
  | _ => none }
def FnMatchPatternStarWidensWrongFalsely : Prop := fnMatchPatternStarWidensRow.holds Try.pinned (OpenSpec.ofChange fnMatchPatternStarWidensWrong)

/-- 'zzlaws_root_b1.FnFitAgreesWithEveryParse': WHATEVER THE INPUT: true; the input reads as it did. -/
def fnFitAgreesWithEveryParseSpec : ChangeSpec := { name := "fnFitAgreesWithEveryParse", fn := fun _ => fun
  | [d1, d2, d3, d4, d5] => { results := [.lit (.bool true)], args := [d1, d2, d3, d4, d5] }
  | _ => none }
def fnFitAgreesWithEveryParseRow : OpenClaim := { program := "qxb6600526a", sum := "32d55f1b15916c4d8693eeb11ee0cfcf4964d92b6d9e71ca77684835aeb5f74e", func := "example.com/naysayr/naysayr/zzlaws_root_b1.FnFitAgreesWithEveryParse", spec := "fnFitAgreesWithEveryParse", inPlace := ["internal/bytealg.IndexByteString", "internal/bytealg.IndexString"], named := ["internal/bytealg.MaxLen"], apart := false }
def FnFitAgreesWithEveryParseSaid : Prop := fnFitAgreesWithEveryParseRow.holds Try.pinned (OpenSpec.ofChange fnFitAgreesWithEveryParseSpec)

/-- ITS FALSE NEIGHBOUR: 'it returns false'. Refute it at one input. -/
def fnFitAgreesWithEveryParseWrong : ChangeSpec := { name := "fnFitAgreesWithEveryParse", fn := fun _ => fun
  | [d1, d2, d3, d4, d5] => { results := [.lit (.bool false)], args := [d1, d2, d3, d4, d5] }
  | _ => none }
def FnFitAgreesWithEveryParseWrongFalsely : Prop := fnFitAgreesWithEveryParseRow.holds Try.pinned (OpenSpec.ofChange fnFitAgreesWithEveryParseWrong)

/-- 'zzlaws_root_b1.FnFitPrefixesOfABeginningBegin': WHATEVER THE INPUT: true; the input reads as it did. -/
def fnFitPrefixesOfABeginningBeginSpec : ChangeSpec := { name := "fnFitPrefixesOfABeginningBegin", fn := fun _ => fun
  | [d1, d2, d3, d4, d5, d6] => { results := [.lit (.bool true)], args := [d1, d2, d3, d4, d5, d6] }
  | _ => none }
def fnFitPrefixesOfABeginningBeginRow : OpenClaim := { program := "qxb6600526a", sum := "32d55f1b15916c4d8693eeb11ee0cfcf4964d92b6d9e71ca77684835aeb5f74e", func := "example.com/naysayr/naysayr/zzlaws_root_b1.FnFitPrefixesOfABeginningBegin", spec := "fnFitPrefixesOfABeginningBegin", inPlace := ["internal/bytealg.IndexByteString", "internal/bytealg.IndexString"], named := ["internal/bytealg.MaxLen"], apart := false }
def FnFitPrefixesOfABeginningBeginSaid : Prop := fnFitPrefixesOfABeginningBeginRow.holds Try.pinned (OpenSpec.ofChange fnFitPrefixesOfABeginningBeginSpec)

/-- ITS FALSE NEIGHBOUR: 'it returns false'. Refute it at one input. -/
def fnFitPrefixesOfABeginningBeginWrong : ChangeSpec := { name := "fnFitPrefixesOfABeginningBegin", fn := fun _ => fun
  | [d1, d2, d3, d4, d5, d6] => { results := [.lit (.bool false)], args := [d1, d2, d3, d4, d5, d6] }
  | _ => none }
def FnFitPrefixesOfABeginningBeginWrongFalsely : Prop := fnFitPrefixesOfABeginningBeginRow.holds Try.pinned (OpenSpec.ofChange fnFitPrefixesOfABeginningBeginWrong)

/-- 'zzlaws_root_b1.FnParseIPv6AgreesWithSplitModel': WHATEVER THE INPUT: true; the input reads as it did. -/
def fnParseIPv6AgreesWithSplitModelSpec : ChangeSpec := { name := "fnParseIPv6AgreesWithSplitModel", fn := fun _ => fun
  | [d] => { results := [.lit (.bool true)], args := [d] }
  | _ => none }
def fnParseIPv6AgreesWithSplitModelRow : OpenClaim := { program := "qxb6600526a", sum := "32d55f1b15916c4d8693eeb11ee0cfcf4964d92b6d9e71ca77684835aeb5f74e", func := "example.com/naysayr/naysayr/zzlaws_root_b1.FnParseIPv6AgreesWithSplitModel", spec := "fnParseIPv6AgreesWithSplitModel", apart := false }
def FnParseIPv6AgreesWithSplitModelSaid : Prop := fnParseIPv6AgreesWithSplitModelRow.holds Try.pinned (OpenSpec.ofChange fnParseIPv6AgreesWithSplitModelSpec)

/-- ITS FALSE NEIGHBOUR: 'it returns false'. Refute it at one input. -/
def fnParseIPv6AgreesWithSplitModelWrong : ChangeSpec := { name := "fnParseIPv6AgreesWithSplitModel", fn := fun _ => fun
  | [d] => { results := [.lit (.bool false)], args := [d] }
  | _ => none }
def FnParseIPv6AgreesWithSplitModelWrongFalsely : Prop := fnParseIPv6AgreesWithSplitModelRow.holds Try.pinned (OpenSpec.ofChange fnParseIPv6AgreesWithSplitModelWrong)

/-- 'zzlaws_root_b1.FnParseIPv6ReadsBackWhatIsWritten': WHATEVER THE INPUT: true; the input reads as it did. -/
def fnParseIPv6ReadsBackWhatIsWrittenSpec : ChangeSpec := { name := "fnParseIPv6ReadsBackWhatIsWritten", fn := fun _ => fun
  | [d1, d2, d3, d4, d5] => { results := [.lit (.bool true)], args := [d1, d2, d3, d4, d5] }
  | _ => none }
def fnParseIPv6ReadsBackWhatIsWrittenRow : OpenClaim := { program := "qxb6600526a", sum := "32d55f1b15916c4d8693eeb11ee0cfcf4964d92b6d9e71ca77684835aeb5f74e", func := "example.com/naysayr/naysayr/zzlaws_root_b1.FnParseIPv6ReadsBackWhatIsWritten", spec := "fnParseIPv6ReadsBackWhatIsWritten", apart := false }
def FnParseIPv6ReadsBackWhatIsWrittenSaid : Prop := fnParseIPv6ReadsBackWhatIsWrittenRow.holds Try.pinned (OpenSpec.ofChange fnParseIPv6ReadsBackWhatIsWrittenSpec)

/-- ITS FALSE NEIGHBOUR: 'it returns false'. Refute it at one input. -/
def fnParseIPv6ReadsBackWhatIsWrittenWrong : ChangeSpec := { name := "fnParseIPv6ReadsBackWhatIsWritten", fn := fun _ => fun
  | [d1, d2, d3, d4, d5] => { results := [.lit (.bool false)], args := [d1, d2, d3, d4, d5] }
  | _ => none }
def FnParseIPv6ReadsBackWhatIsWrittenWrongFalsely : Prop := fnParseIPv6ReadsBackWhatIsWrittenRow.holds Try.pinned (OpenSpec.ofChange fnParseIPv6ReadsBackWhatIsWrittenWrong)

/-- 'zzlaws_root_b1.FnParseIPv6IgnoresLetterCase': WHATEVER THE INPUT: true; the input reads as it did. -/
def fnParseIPv6IgnoresLetterCaseSpec : ChangeSpec := { name := "fnParseIPv6IgnoresLetterCase", fn := fun _ => fun
  | [d] => { results := [.lit (.bool true)], args := [d] }
  | _ => none }
def fnParseIPv6IgnoresLetterCaseRow : OpenClaim := { program := "qxb6600526a", sum := "32d55f1b15916c4d8693eeb11ee0cfcf4964d92b6d9e71ca77684835aeb5f74e", func := "example.com/naysayr/naysayr/zzlaws_root_b1.FnParseIPv6IgnoresLetterCase", spec := "fnParseIPv6IgnoresLetterCase", apart := false }
def FnParseIPv6IgnoresLetterCaseSaid : Prop := fnParseIPv6IgnoresLetterCaseRow.holds Try.pinned (OpenSpec.ofChange fnParseIPv6IgnoresLetterCaseSpec)

/-- ITS FALSE NEIGHBOUR: 'it returns false'. Refute it at one input. -/
def fnParseIPv6IgnoresLetterCaseWrong : ChangeSpec := { name := "fnParseIPv6IgnoresLetterCase", fn := fun _ => fun
  | [d] => { results := [.lit (.bool false)], args := [d] }
  | _ => none }
def FnParseIPv6IgnoresLetterCaseWrongFalsely : Prop := fnParseIPv6IgnoresLetterCaseRow.holds Try.pinned (OpenSpec.ofChange fnParseIPv6IgnoresLetterCaseWrong)

end Rows
end Go.Proofs.Qxb6600526a
