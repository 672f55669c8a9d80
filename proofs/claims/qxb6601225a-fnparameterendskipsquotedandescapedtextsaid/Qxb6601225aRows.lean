/-
  No cell of these rows narrows 'for every input' (looked for: loops, veiled, ifaces, maps, wideKeys, modest, calm, conditions, laid).
  DERIVED. THE GIVEN ROWS OF THIS SEAT. 7 by the template 'for every input the law returns true; each argument reads behind the call as it read before'; 0 by the template 'total and deterministic' (their statements: Qxb6601225aTotals.lean).
  GIVEN WITH THE SEED: the statements are not yours to turn. If you find one false, say at which input.
  Laid BY PROGRAM, IN A SANDBOX (cutbox-rows.mjs): the forced cells as the released guide's own fill.sh prints them over the translation 481af09978313aa7… (all of the seat's roots in one cut). By AI agents, Wed Nov 11 2026. No macro, syntax, notation, axiom, sorry.
-/
import Derived.Test.Qxb6601225aChecked
import GoSem.Claim
import GoSem.ClaimJoined
import GoSem.ClaimMapViews
import Derived.JoinedTies
import Derived.KernelRfl
namespace Go.Proofs.Qxb6601225a
/- THE CELL 'sum', in the pinned program and in every row, IS THE sha256 OF THE DUMP (.gsa) THAT Qxb6601225aProg.lean LOADS. Nothing in Lean hashes anything: it is a label: what it is worth is what the hold of that sum in a sandbox is worth. -/
noncomputable def Try.pinned : Pinned := { name := "qxb6601225a", sum := "481af09978313aa76a3beb4614c1db45cf050faf63a2c2c43902bed631b3d86c", checked := Try.checked }
namespace Rows
def none {H : Type} : Left H := { results := [], args := [] }

/-- 'zzlaws_policy_b1.FnParameterEndDependsOnlyOnTextUpToIt': WHATEVER THE INPUT: true; the input reads as it did. -/
def fnParameterEndDependsOnlyOnTextUpToItSpec : ChangeSpec := { name := "fnParameterEndDependsOnlyOnTextUpToIt", fn := fun _ => fun
  | [d1, d2] => { results := [.lit (.bool true)], args := [d1, d2] }
  | _ => none }
def fnParameterEndDependsOnlyOnTextUpToItRow : OpenClaim := { program := "qxb6601225a", sum := "481af09978313aa76a3beb4614c1db45cf050faf63a2c2c43902bed631b3d86c", func := "example.com/durable-loop/durable-loop/zzlaws_policy_b1.FnParameterEndDependsOnlyOnTextUpToIt", spec := "fnParameterEndDependsOnlyOnTextUpToIt", inPlace := ["internal/bytealg.IndexByteString", "internal/abi.NoEscape"], recurses := true, apart := false }
def FnParameterEndDependsOnlyOnTextUpToItSaid : Prop := fnParameterEndDependsOnlyOnTextUpToItRow.holds Try.pinned (OpenSpec.ofChange fnParameterEndDependsOnlyOnTextUpToItSpec)

/-- ITS FALSE NEIGHBOUR: 'it returns false'. Refute it at one input. -/
def fnParameterEndDependsOnlyOnTextUpToItWrong : ChangeSpec := { name := "fnParameterEndDependsOnlyOnTextUpToIt", fn := fun _ => fun
  | [d1, d2] => { results := [.lit (.bool false)], args := [d1, d2] }
  | _ => none }
def FnParameterEndDependsOnlyOnTextUpToItWrongFalsely : Prop := fnParameterEndDependsOnlyOnTextUpToItRow.holds Try.pinned (OpenSpec.ofChange fnParameterEndDependsOnlyOnTextUpToItWrong)

/-- 'zzlaws_policy_b1.FnParameterEndOpenBraceDefersEnd': WHATEVER THE INPUT: true; the input reads as it did. -/
def fnParameterEndOpenBraceDefersEndSpec : ChangeSpec := { name := "fnParameterEndOpenBraceDefersEnd", fn := fun _ => fun
  | [d] => { results := [.lit (.bool true)], args := [d] }
  | _ => none }
def fnParameterEndOpenBraceDefersEndRow : OpenClaim := { program := "qxb6601225a", sum := "481af09978313aa76a3beb4614c1db45cf050faf63a2c2c43902bed631b3d86c", func := "example.com/durable-loop/durable-loop/zzlaws_policy_b1.FnParameterEndOpenBraceDefersEnd", spec := "fnParameterEndOpenBraceDefersEnd", inPlace := ["internal/bytealg.IndexByteString", "internal/abi.NoEscape"], recurses := true, apart := false }
def FnParameterEndOpenBraceDefersEndSaid : Prop := fnParameterEndOpenBraceDefersEndRow.holds Try.pinned (OpenSpec.ofChange fnParameterEndOpenBraceDefersEndSpec)

/-- ITS FALSE NEIGHBOUR: 'it returns false'. Refute it at one input. -/
def fnParameterEndOpenBraceDefersEndWrong : ChangeSpec := { name := "fnParameterEndOpenBraceDefersEnd", fn := fun _ => fun
  | [d] => { results := [.lit (.bool false)], args := [d] }
  | _ => none }
def FnParameterEndOpenBraceDefersEndWrongFalsely : Prop := fnParameterEndOpenBraceDefersEndRow.holds Try.pinned (OpenSpec.ofChange fnParameterEndOpenBraceDefersEndWrong)

/-- 'zzlaws_policy_b1.FnParameterEndSkipsQuotedAndEscapedText': WHATEVER THE INPUT: true; the input reads as it did. -/
def fnParameterEndSkipsQuotedAndEscapedTextSpec : ChangeSpec := { name := "fnParameterEndSkipsQuotedAndEscapedText", fn := fun _ => fun
  | [d1, d2, d3] => { results := [.lit (.bool true)], args := [d1, d2, d3] }
  | _ => none }
def fnParameterEndSkipsQuotedAndEscapedTextRow : OpenClaim := { program := "qxb6601225a", sum := "481af09978313aa76a3beb4614c1db45cf050faf63a2c2c43902bed631b3d86c", func := "example.com/durable-loop/durable-loop/zzlaws_policy_b1.FnParameterEndSkipsQuotedAndEscapedText", spec := "fnParameterEndSkipsQuotedAndEscapedText", inPlace := ["internal/bytealg.IndexByteString", "internal/abi.NoEscape"], recurses := true, apart := false }
def FnParameterEndSkipsQuotedAndEscapedTextSaid : Prop := fnParameterEndSkipsQuotedAndEscapedTextRow.holds Try.pinned (OpenSpec.ofChange fnParameterEndSkipsQuotedAndEscapedTextSpec)

/-- ITS FALSE NEIGHBOUR: 'it returns false'. Refute it at one input. -/
def fnParameterEndSkipsQuotedAndEscapedTextWrong : ChangeSpec := { name := "fnParameterEndSkipsQuotedAndEscapedText", fn := fun _ => fun
  | [d1, d2, d3] => { results := [.lit (.bool false)], args := [d1, d2, d3] }
  | _ => none }
def FnParameterEndSkipsQuotedAndEscapedTextWrongFalsely : Prop := fnParameterEndSkipsQuotedAndEscapedTextRow.holds Try.pinned (OpenSpec.ofChange fnParameterEndSkipsQuotedAndEscapedTextWrong)

/-- 'zzlaws_policy_b1.FnReadConversionDependsOnlyOnTextFromItsPercent': WHATEVER THE INPUT: true; the input reads as it did. -/
def fnReadConversionDependsOnlyOnTextFromItsPercentSpec : ChangeSpec := { name := "fnReadConversionDependsOnlyOnTextFromItsPercent", fn := fun _ => fun
  | [d1, d2, d3] => { results := [.lit (.bool true)], args := [d1, d2, d3] }
  | _ => none }
def fnReadConversionDependsOnlyOnTextFromItsPercentRow : OpenClaim := { program := "qxb6601225a", sum := "481af09978313aa76a3beb4614c1db45cf050faf63a2c2c43902bed631b3d86c", func := "example.com/durable-loop/durable-loop/zzlaws_policy_b1.FnReadConversionDependsOnlyOnTextFromItsPercent", spec := "fnReadConversionDependsOnlyOnTextFromItsPercent", inPlace := ["internal/bytealg.IndexByteString"], unfollowed := true, recurses := true, apart := false }
def FnReadConversionDependsOnlyOnTextFromItsPercentSaid : Prop := fnReadConversionDependsOnlyOnTextFromItsPercentRow.holds Try.pinned (OpenSpec.ofChange fnReadConversionDependsOnlyOnTextFromItsPercentSpec)

/-- ITS FALSE NEIGHBOUR: 'it returns false'. Refute it at one input. -/
def fnReadConversionDependsOnlyOnTextFromItsPercentWrong : ChangeSpec := { name := "fnReadConversionDependsOnlyOnTextFromItsPercent", fn := fun _ => fun
  | [d1, d2, d3] => { results := [.lit (.bool false)], args := [d1, d2, d3] }
  | _ => none }
def FnReadConversionDependsOnlyOnTextFromItsPercentWrongFalsely : Prop := fnReadConversionDependsOnlyOnTextFromItsPercentRow.holds Try.pinned (OpenSpec.ofChange fnReadConversionDependsOnlyOnTextFromItsPercentWrong)

/-- 'zzlaws_policy_b1.FnReadConversionReadsBackAConversionWrittenFromParts': WHATEVER THE INPUT: true; the input reads as it did. -/
def fnReadConversionReadsBackAConversionWrittenFromPartsSpec : ChangeSpec := { name := "fnReadConversionReadsBackAConversionWrittenFromParts", fn := fun _ => fun
  | [d1, d2, d3, d4, d5, d6, d7, d8, d9] => { results := [.lit (.bool true)], args := [d1, d2, d3, d4, d5, d6, d7, d8, d9] }
  | _ => none }
def fnReadConversionReadsBackAConversionWrittenFromPartsRow : OpenClaim := { program := "qxb6601225a", sum := "481af09978313aa76a3beb4614c1db45cf050faf63a2c2c43902bed631b3d86c", func := "example.com/durable-loop/durable-loop/zzlaws_policy_b1.FnReadConversionReadsBackAConversionWrittenFromParts", spec := "fnReadConversionReadsBackAConversionWrittenFromParts", inPlace := ["internal/bytealg.IndexByteString"], unfollowed := true, recurses := true, apart := false }
def FnReadConversionReadsBackAConversionWrittenFromPartsSaid : Prop := fnReadConversionReadsBackAConversionWrittenFromPartsRow.holds Try.pinned (OpenSpec.ofChange fnReadConversionReadsBackAConversionWrittenFromPartsSpec)

/-- ITS FALSE NEIGHBOUR: 'it returns false'. Refute it at one input. -/
def fnReadConversionReadsBackAConversionWrittenFromPartsWrong : ChangeSpec := { name := "fnReadConversionReadsBackAConversionWrittenFromParts", fn := fun _ => fun
  | [d1, d2, d3, d4, d5, d6, d7, d8, d9] => { results := [.lit (.bool false)], args := [d1, d2, d3, d4, d5, d6, d7, d8, d9] }
  | _ => none }
def FnReadConversionReadsBackAConversionWrittenFromPartsWrongFalsely : Prop := fnReadConversionReadsBackAConversionWrittenFromPartsRow.holds Try.pinned (OpenSpec.ofChange fnReadConversionReadsBackAConversionWrittenFromPartsWrong)

/-- 'zzlaws_policy_b1.FnReadConversionAnswerIsWellFormed': WHATEVER THE INPUT: true; the input reads as it did. -/
def fnReadConversionAnswerIsWellFormedSpec : ChangeSpec := { name := "fnReadConversionAnswerIsWellFormed", fn := fun _ => fun
  | [d1, d2, d3] => { results := [.lit (.bool true)], args := [d1, d2, d3] }
  | _ => none }
def fnReadConversionAnswerIsWellFormedRow : OpenClaim := { program := "qxb6601225a", sum := "481af09978313aa76a3beb4614c1db45cf050faf63a2c2c43902bed631b3d86c", func := "example.com/durable-loop/durable-loop/zzlaws_policy_b1.FnReadConversionAnswerIsWellFormed", spec := "fnReadConversionAnswerIsWellFormed", inPlace := ["internal/bytealg.IndexByteString"], unfollowed := true, recurses := true, apart := false }
def FnReadConversionAnswerIsWellFormedSaid : Prop := fnReadConversionAnswerIsWellFormedRow.holds Try.pinned (OpenSpec.ofChange fnReadConversionAnswerIsWellFormedSpec)

/-- ITS FALSE NEIGHBOUR: 'it returns false'. Refute it at one input. -/
def fnReadConversionAnswerIsWellFormedWrong : ChangeSpec := { name := "fnReadConversionAnswerIsWellFormed", fn := fun _ => fun
  | [d1, d2, d3] => { results := [.lit (.bool false)], args := [d1, d2, d3] }
  | _ => none }
def FnReadConversionAnswerIsWellFormedWrongFalsely : Prop := fnReadConversionAnswerIsWellFormedRow.holds Try.pinned (OpenSpec.ofChange fnReadConversionAnswerIsWellFormedWrong)

/-- 'zzlaws_policy_b1.FnStepKeepsItsPositionInBounds': WHATEVER THE INPUT: true; the input reads as it did. -/
def fnStepKeepsItsPositionInBoundsSpec : ChangeSpec := { name := "fnStepKeepsItsPositionInBounds", fn := fun _ => fun
  | [d1, d2, d3, d4, d5, d6, d7, d8, d9, d10] => { results := [.lit (.bool true)], args := [d1, d2, d3, d4, d5, d6, d7, d8, d9, d10] }
  | _ => none }
def fnStepKeepsItsPositionInBoundsRow : OpenClaim := { program := "qxb6601225a", sum := "481af09978313aa76a3beb4614c1db45cf050faf63a2c2c43902bed631b3d86c", func := "example.com/durable-loop/durable-loop/zzlaws_policy_b1.FnStepKeepsItsPositionInBounds", spec := "fnStepKeepsItsPositionInBounds", inPlace := ["internal/bytealg.IndexByteString", "internal/bytealg.IndexString"], unfollowed := true, recurses := true, named := ["internal/bytealg.MaxLen"], apart := false }
def FnStepKeepsItsPositionInBoundsSaid : Prop := fnStepKeepsItsPositionInBoundsRow.holds Try.pinned (OpenSpec.ofChange fnStepKeepsItsPositionInBoundsSpec)

/-- ITS FALSE NEIGHBOUR: 'it returns false'. Refute it at one input. -/
def fnStepKeepsItsPositionInBoundsWrong : ChangeSpec := { name := "fnStepKeepsItsPositionInBounds", fn := fun _ => fun
  | [d1, d2, d3, d4, d5, d6, d7, d8, d9, d10] => { results := [.lit (.bool false)], args := [d1, d2, d3, d4, d5, d6, d7, d8, d9, d10] }
  | _ => none }
def FnStepKeepsItsPositionInBoundsWrongFalsely : Prop := fnStepKeepsItsPositionInBoundsRow.holds Try.pinned (OpenSpec.ofChange fnStepKeepsItsPositionInBoundsWrong)

end Rows
end Go.Proofs.Qxb6601225a
