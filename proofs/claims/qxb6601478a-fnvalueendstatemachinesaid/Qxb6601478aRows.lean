/-
  No cell of these rows narrows 'for every input' (looked for: loops, veiled, ifaces, maps, wideKeys, modest, calm, conditions, laid).
  DERIVED. THE GIVEN ROWS OF THIS SEAT. 5 by the template 'for every input the law returns true; each argument reads behind the call as it read before'; 0 by the template 'total and deterministic' (their statements: Qxb6601478aTotals.lean).
  GIVEN WITH THE SEED: the statements are not yours to turn. If you find one false, say at which input.
  Laid BY PROGRAM, IN A SANDBOX (cutbox-rows.mjs): the forced cells as the released guide's own fill.sh prints them over the translation 591c50c665c7ab29… (all of the seat's roots in one cut). By AI agents, Wed Nov 11 2026. No macro, syntax, notation, axiom, sorry.
-/
import Derived.Test.Qxb6601478aChecked
import GoSem.Claim
import GoSem.ClaimJoined
import GoSem.ClaimMapViews
import Derived.JoinedTies
import Derived.KernelRfl
namespace Go.Proofs.Qxb6601478a
/- THE CELL 'sum', in the pinned program and in every row, IS THE sha256 OF THE DUMP (.gsa) THAT Qxb6601478aProg.lean LOADS. Nothing in Lean hashes anything: it is a label: what it is worth is what the hold of that sum in a sandbox is worth. -/
noncomputable def Try.pinned : Pinned := { name := "qxb6601478a", sum := "591c50c665c7ab29521c8c7ec150dacb0515519037a47b8f361f26816490ca3e", checked := Try.checked }
namespace Rows
def none {H : Type} : Left H := { results := [], args := [] }

/-- 'zzlaws_root_b1.FnWithArticleIgnoresDetail': WHATEVER THE INPUT: true; the input reads as it did. -/
def fnWithArticleIgnoresDetailSpec : ChangeSpec := { name := "fnWithArticleIgnoresDetail", fn := fun _ => fun
  | [d1, d2] => { results := [.lit (.bool true)], args := [d1, d2] }
  | _ => none }
def fnWithArticleIgnoresDetailRow : OpenClaim := { program := "qxb6601478a", sum := "591c50c665c7ab29521c8c7ec150dacb0515519037a47b8f361f26816490ca3e", func := "example.com/inga/inga/zzlaws_root_b1.FnWithArticleIgnoresDetail", spec := "fnWithArticleIgnoresDetail", inPlace := ["internal/bytealg.IndexByteString", "internal/bytealg.IndexString"], named := ["internal/bytealg.MaxLen"], apart := false }
def FnWithArticleIgnoresDetailSaid : Prop := fnWithArticleIgnoresDetailRow.holds Try.pinned (OpenSpec.ofChange fnWithArticleIgnoresDetailSpec)

/-- ITS FALSE NEIGHBOUR: 'it returns false'. Refute it at one input. -/
def fnWithArticleIgnoresDetailWrong : ChangeSpec := { name := "fnWithArticleIgnoresDetail", fn := fun _ => fun
  | [d1, d2] => { results := [.lit (.bool false)], args := [d1, d2] }
  | _ => none }
def FnWithArticleIgnoresDetailWrongFalsely : Prop := fnWithArticleIgnoresDetailRow.holds Try.pinned (OpenSpec.ofChange fnWithArticleIgnoresDetailWrong)

/-- 'zzlaws_root_b1.FnStringEndForwardScan': WHATEVER THE INPUT: true; the input reads as it did. -/
def fnStringEndForwardScanSpec : ChangeSpec := { name := "fnStringEndForwardScan", fn := fun _ => fun
  | [d1, d2] => { results := [.lit (.bool true)], args := [d1, d2] }
  | _ => none }
def fnStringEndForwardScanRow : OpenClaim := { program := "qxb6601478a", sum := "591c50c665c7ab29521c8c7ec150dacb0515519037a47b8f361f26816490ca3e", func := "example.com/inga/inga/zzlaws_root_b1.FnStringEndForwardScan", spec := "fnStringEndForwardScan", inPlace := ["internal/bytealg.IndexByte"], apart := false }
def FnStringEndForwardScanSaid : Prop := fnStringEndForwardScanRow.holds Try.pinned (OpenSpec.ofChange fnStringEndForwardScanSpec)

/-- ITS FALSE NEIGHBOUR: 'it returns false'. Refute it at one input. -/
def fnStringEndForwardScanWrong : ChangeSpec := { name := "fnStringEndForwardScan", fn := fun _ => fun
  | [d1, d2] => { results := [.lit (.bool false)], args := [d1, d2] }
  | _ => none }
def FnStringEndForwardScanWrongFalsely : Prop := fnStringEndForwardScanRow.holds Try.pinned (OpenSpec.ofChange fnStringEndForwardScanWrong)

/-- 'zzlaws_root_b1.FnStringEndStableUnderExtension': WHATEVER THE INPUT: true; the input reads as it did. -/
def fnStringEndStableUnderExtensionSpec : ChangeSpec := { name := "fnStringEndStableUnderExtension", fn := fun _ => fun
  | [d1, d2, d3] => { results := [.lit (.bool true)], args := [d1, d2, d3] }
  | _ => none }
def fnStringEndStableUnderExtensionRow : OpenClaim := { program := "qxb6601478a", sum := "591c50c665c7ab29521c8c7ec150dacb0515519037a47b8f361f26816490ca3e", func := "example.com/inga/inga/zzlaws_root_b1.FnStringEndStableUnderExtension", spec := "fnStringEndStableUnderExtension", inPlace := ["internal/bytealg.IndexByte"], apart := false }
def FnStringEndStableUnderExtensionSaid : Prop := fnStringEndStableUnderExtensionRow.holds Try.pinned (OpenSpec.ofChange fnStringEndStableUnderExtensionSpec)

/-- ITS FALSE NEIGHBOUR: 'it returns false'. Refute it at one input. -/
def fnStringEndStableUnderExtensionWrong : ChangeSpec := { name := "fnStringEndStableUnderExtension", fn := fun _ => fun
  | [d1, d2, d3] => { results := [.lit (.bool false)], args := [d1, d2, d3] }
  | _ => none }
def FnStringEndStableUnderExtensionWrongFalsely : Prop := fnStringEndStableUnderExtensionRow.holds Try.pinned (OpenSpec.ofChange fnStringEndStableUnderExtensionWrong)

/-- 'zzlaws_root_b1.FnValueEndStateMachine': WHATEVER THE INPUT: true; the input reads as it did. -/
def fnValueEndStateMachineSpec : ChangeSpec := { name := "fnValueEndStateMachine", fn := fun _ => fun
  | [d1, d2] => { results := [.lit (.bool true)], args := [d1, d2] }
  | _ => none }
def fnValueEndStateMachineRow : OpenClaim := { program := "qxb6601478a", sum := "591c50c665c7ab29521c8c7ec150dacb0515519037a47b8f361f26816490ca3e", func := "example.com/inga/inga/zzlaws_root_b1.FnValueEndStateMachine", spec := "fnValueEndStateMachine", inPlace := ["internal/bytealg.IndexByte", "internal/bytealg.IndexByteString"], apart := false }
def FnValueEndStateMachineSaid : Prop := fnValueEndStateMachineRow.holds Try.pinned (OpenSpec.ofChange fnValueEndStateMachineSpec)

/-- ITS FALSE NEIGHBOUR: 'it returns false'. Refute it at one input. -/
def fnValueEndStateMachineWrong : ChangeSpec := { name := "fnValueEndStateMachine", fn := fun _ => fun
  | [d1, d2] => { results := [.lit (.bool false)], args := [d1, d2] }
  | _ => none }
def FnValueEndStateMachineWrongFalsely : Prop := fnValueEndStateMachineRow.holds Try.pinned (OpenSpec.ofChange fnValueEndStateMachineWrong)

/-- 'zzlaws_root_b1.FnValueEndNeedsOnlyItsOwnBytes': WHATEVER THE INPUT: true; the input reads as it did. -/
def fnValueEndNeedsOnlyItsOwnBytesSpec : ChangeSpec := { name := "fnValueEndNeedsOnlyItsOwnBytes", fn := fun _ => fun
  | [d1, d2] => { results := [.lit (.bool true)], args := [d1, d2] }
  | _ => none }
def fnValueEndNeedsOnlyItsOwnBytesRow : OpenClaim := { program := "qxb6601478a", sum := "591c50c665c7ab29521c8c7ec150dacb0515519037a47b8f361f26816490ca3e", func := "example.com/inga/inga/zzlaws_root_b1.FnValueEndNeedsOnlyItsOwnBytes", spec := "fnValueEndNeedsOnlyItsOwnBytes", inPlace := ["internal/bytealg.IndexByte", "internal/bytealg.IndexByteString"], apart := false }
def FnValueEndNeedsOnlyItsOwnBytesSaid : Prop := fnValueEndNeedsOnlyItsOwnBytesRow.holds Try.pinned (OpenSpec.ofChange fnValueEndNeedsOnlyItsOwnBytesSpec)

/-- ITS FALSE NEIGHBOUR: 'it returns false'. Refute it at one input. -/
def fnValueEndNeedsOnlyItsOwnBytesWrong : ChangeSpec := { name := "fnValueEndNeedsOnlyItsOwnBytes", fn := fun _ => fun
  | [d1, d2] => { results := [.lit (.bool false)], args := [d1, d2] }
  | _ => none }
def FnValueEndNeedsOnlyItsOwnBytesWrongFalsely : Prop := fnValueEndNeedsOnlyItsOwnBytesRow.holds Try.pinned (OpenSpec.ofChange fnValueEndNeedsOnlyItsOwnBytesWrong)

end Rows
end Go.Proofs.Qxb6601478a
