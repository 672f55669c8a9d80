/-
  No cell of these rows narrows 'for every input' (looked for: loops, veiled, ifaces, maps, wideKeys, modest, calm, conditions, laid).
  DERIVED. THE GIVEN ROWS OF THIS SEAT. 4 by the template 'for every input the law returns true; each argument reads behind the call as it read before'; 0 by the template 'total and deterministic' (their statements: Qxb6601546aTotals.lean).
  GIVEN WITH THE SEED: the statements are not yours to turn. If you find one false, say at which input.
  Laid BY PROGRAM, IN A SANDBOX (cutbox-rows.mjs): the forced cells as the released guide's own fill.sh prints them over the translation d49f1475ad30a36c… (all of the seat's roots in one cut). By AI agents, Wed Nov 11 2026. No macro, syntax, notation, axiom, sorry.
-/
import Derived.Test.Qxb6601546aChecked
import GoSem.Claim
import GoSem.ClaimJoined
import GoSem.ClaimMapViews
import Derived.JoinedTies
import Derived.KernelRfl
namespace Go.Proofs.Qxb6601546a
/- THE CELL 'sum', in the pinned program and in every row, IS THE sha256 OF THE DUMP (.gsa) THAT Qxb6601546aProg.lean LOADS. Nothing in Lean hashes anything: it is a label: what it is worth is what the hold of that sum in a sandbox is worth. -/
noncomputable def Try.pinned : Pinned := { name := "qxb6601546a", sum := "d49f1475ad30a36cff0541dd5fa6b1ed31b4445a48d75d663c9eb194e05f9070", checked := Try.checked }
namespace Rows
def none {H : Type} : Left H := { results := [], args := [] }

/-- 'zzlaws_internal_syntax_b1.FnSkipSpaceMatchesByteAutomaton': WHATEVER THE INPUT: true; the input reads as it did. -/
def fnSkipSpaceMatchesByteAutomatonSpec : ChangeSpec := { name := "fnSkipSpaceMatchesByteAutomaton", fn := fun _ => fun
  | [d1, d2] => { results := [.lit (.bool true)], args := [d1, d2] }
  | _ => none }
def fnSkipSpaceMatchesByteAutomatonRow : OpenClaim := { program := "qxb6601546a", sum := "d49f1475ad30a36cff0541dd5fa6b1ed31b4445a48d75d663c9eb194e05f9070", func := "example.com/redoubt/redoubt/zzlaws_internal_syntax_b1.FnSkipSpaceMatchesByteAutomaton", spec := "fnSkipSpaceMatchesByteAutomaton", inPlace := ["internal/bytealg.IndexByteString"], apart := false }
def FnSkipSpaceMatchesByteAutomatonSaid : Prop := fnSkipSpaceMatchesByteAutomatonRow.holds Try.pinned (OpenSpec.ofChange fnSkipSpaceMatchesByteAutomatonSpec)

/-- ITS FALSE NEIGHBOUR: 'it returns false'. Refute it at one input. -/
def fnSkipSpaceMatchesByteAutomatonWrong : ChangeSpec := { name := "fnSkipSpaceMatchesByteAutomaton", fn := fun _ => fun
  | [d1, d2] => { results := [.lit (.bool false)], args := [d1, d2] }
  | _ => none }
def FnSkipSpaceMatchesByteAutomatonWrongFalsely : Prop := fnSkipSpaceMatchesByteAutomatonRow.holds Try.pinned (OpenSpec.ofChange fnSkipSpaceMatchesByteAutomatonWrong)

/-- 'zzlaws_internal_syntax_b1.FnSkipSpaceFromInsideSkippedRunEndsNoLater': WHATEVER THE INPUT: true; the input reads as it did. -/
def fnSkipSpaceFromInsideSkippedRunEndsNoLaterSpec : ChangeSpec := { name := "fnSkipSpaceFromInsideSkippedRunEndsNoLater", fn := fun _ => fun
  | [d1, d2, d3] => { results := [.lit (.bool true)], args := [d1, d2, d3] }
  | _ => none }
def fnSkipSpaceFromInsideSkippedRunEndsNoLaterRow : OpenClaim := { program := "qxb6601546a", sum := "d49f1475ad30a36cff0541dd5fa6b1ed31b4445a48d75d663c9eb194e05f9070", func := "example.com/redoubt/redoubt/zzlaws_internal_syntax_b1.FnSkipSpaceFromInsideSkippedRunEndsNoLater", spec := "fnSkipSpaceFromInsideSkippedRunEndsNoLater", inPlace := ["internal/bytealg.IndexByteString"], apart := false }
def FnSkipSpaceFromInsideSkippedRunEndsNoLaterSaid : Prop := fnSkipSpaceFromInsideSkippedRunEndsNoLaterRow.holds Try.pinned (OpenSpec.ofChange fnSkipSpaceFromInsideSkippedRunEndsNoLaterSpec)

/-- ITS FALSE NEIGHBOUR: 'it returns false'. Refute it at one input. -/
def fnSkipSpaceFromInsideSkippedRunEndsNoLaterWrong : ChangeSpec := { name := "fnSkipSpaceFromInsideSkippedRunEndsNoLater", fn := fun _ => fun
  | [d1, d2, d3] => { results := [.lit (.bool false)], args := [d1, d2, d3] }
  | _ => none }
def FnSkipSpaceFromInsideSkippedRunEndsNoLaterWrongFalsely : Prop := fnSkipSpaceFromInsideSkippedRunEndsNoLaterRow.holds Try.pinned (OpenSpec.ofChange fnSkipSpaceFromInsideSkippedRunEndsNoLaterWrong)

/-- 'zzlaws_internal_syntax_b1.FnEndLiteralMatchesQuoteRunParity': WHATEVER THE INPUT: true; the input reads as it did. -/
def fnEndLiteralMatchesQuoteRunParitySpec : ChangeSpec := { name := "fnEndLiteralMatchesQuoteRunParity", fn := fun _ => fun
  | [d1, d2] => { results := [.lit (.bool true)], args := [d1, d2] }
  | _ => none }
def fnEndLiteralMatchesQuoteRunParityRow : OpenClaim := { program := "qxb6601546a", sum := "d49f1475ad30a36cff0541dd5fa6b1ed31b4445a48d75d663c9eb194e05f9070", func := "example.com/redoubt/redoubt/zzlaws_internal_syntax_b1.FnEndLiteralMatchesQuoteRunParity", spec := "fnEndLiteralMatchesQuoteRunParity", inPlace := ["internal/bytealg.IndexByteString"], apart := false }
def FnEndLiteralMatchesQuoteRunParitySaid : Prop := fnEndLiteralMatchesQuoteRunParityRow.holds Try.pinned (OpenSpec.ofChange fnEndLiteralMatchesQuoteRunParitySpec)

/-- ITS FALSE NEIGHBOUR: 'it returns false'. Refute it at one input. -/
def fnEndLiteralMatchesQuoteRunParityWrong : ChangeSpec := { name := "fnEndLiteralMatchesQuoteRunParity", fn := fun _ => fun
  | [d1, d2] => { results := [.lit (.bool false)], args := [d1, d2] }
  | _ => none }
def FnEndLiteralMatchesQuoteRunParityWrongFalsely : Prop := fnEndLiteralMatchesQuoteRunParityRow.holds Try.pinned (OpenSpec.ofChange fnEndLiteralMatchesQuoteRunParityWrong)

/-- 'zzlaws_internal_syntax_b1.FnEndLiteralResumesWhereShorterSourceStopped': WHATEVER THE INPUT: true; the input reads as it did. -/
def fnEndLiteralResumesWhereShorterSourceStoppedSpec : ChangeSpec := { name := "fnEndLiteralResumesWhereShorterSourceStopped", fn := fun _ => fun
  | [d1, d2, d3] => { results := [.lit (.bool true)], args := [d1, d2, d3] }
  | _ => none }
def fnEndLiteralResumesWhereShorterSourceStoppedRow : OpenClaim := { program := "qxb6601546a", sum := "d49f1475ad30a36cff0541dd5fa6b1ed31b4445a48d75d663c9eb194e05f9070", func := "example.com/redoubt/redoubt/zzlaws_internal_syntax_b1.FnEndLiteralResumesWhereShorterSourceStopped", spec := "fnEndLiteralResumesWhereShorterSourceStopped", inPlace := ["internal/bytealg.IndexByteString"], apart := false }
def FnEndLiteralResumesWhereShorterSourceStoppedSaid : Prop := fnEndLiteralResumesWhereShorterSourceStoppedRow.holds Try.pinned (OpenSpec.ofChange fnEndLiteralResumesWhereShorterSourceStoppedSpec)

/-- ITS FALSE NEIGHBOUR: 'it returns false'. Refute it at one input. -/
def fnEndLiteralResumesWhereShorterSourceStoppedWrong : ChangeSpec := { name := "fnEndLiteralResumesWhereShorterSourceStopped", fn := fun _ => fun
  | [d1, d2, d3] => { results := [.lit (.bool false)], args := [d1, d2, d3] }
  | _ => none }
def FnEndLiteralResumesWhereShorterSourceStoppedWrongFalsely : Prop := fnEndLiteralResumesWhereShorterSourceStoppedRow.holds Try.pinned (OpenSpec.ofChange fnEndLiteralResumesWhereShorterSourceStoppedWrong)

end Rows
end Go.Proofs.Qxb6601546a
