/-
  No cell of these rows narrows 'for every input' (looked for: loops, veiled, ifaces, maps, wideKeys, modest, calm, conditions, laid).
  DERIVED. THE GIVEN ROWS OF THIS SEAT. 6 by the template 'for every input the law returns true; each argument reads behind the call as it read before'; 0 by the template 'total and deterministic' (their statements: Qxb6605558aTotals.lean).
  GIVEN WITH THE SEED: the statements are not yours to turn. If you find one false, say at which input.
  Laid BY PROGRAM, IN A SANDBOX (cutbox-rows.mjs): the forced cells as the released guide's own fill.sh prints them over the translation b7fde731b61397bc… (all of the seat's roots in one cut). By AI agents, Wed Nov 11 2026. No macro, syntax, notation, axiom, sorry.
-/
import Derived.Test.Qxb6605558aChecked
import GoSem.Claim
import GoSem.ClaimJoined
import GoSem.ClaimMapViews
import Derived.JoinedTies
import Derived.KernelRfl
namespace Go.Proofs.Qxb6605558a
/- THE CELL 'sum', in the pinned program and in every row, IS THE sha256 OF THE DUMP (.gsa) THAT Qxb6605558aProg.lean LOADS. Nothing in Lean hashes anything: it is a label: what it is worth is what the hold of that sum in a sandbox is worth. -/
noncomputable def Try.pinned : Pinned := { name := "qxb6605558a", sum := "b7fde731b61397bc60ba9f0593a4f5defef8a66c0047154f0b8a77a046e8c67f", checked := Try.checked }
namespace Rows
def none {H : Type} : Left H := { results := [], args := [] }

/-- 'zzlaws_internal_httpapi_b1.FnStringEndMatchesBackslashParity': WHATEVER THE INPUT: true; the input reads as it did. -/
def fnStringEndMatchesBackslashParitySpec : ChangeSpec := { name := "fnStringEndMatchesBackslashParity", fn := fun _ => fun
  | [d1, d2] => { results := [.lit (.bool true)], args := [d1, d2] }
  | _ => none }
def fnStringEndMatchesBackslashParityRow : OpenClaim := { program := "qxb6605558a", sum := "b7fde731b61397bc60ba9f0593a4f5defef8a66c0047154f0b8a77a046e8c67f", func := "example.com/cohort-gate/cohort-gate/zzlaws_internal_httpapi_b1.FnStringEndMatchesBackslashParity", spec := "fnStringEndMatchesBackslashParity", apart := false }
def FnStringEndMatchesBackslashParitySaid : Prop := fnStringEndMatchesBackslashParityRow.holds Try.pinned (OpenSpec.ofChange fnStringEndMatchesBackslashParitySpec)

/-- ITS FALSE NEIGHBOUR: 'it returns false'. Refute it at one input. -/
def fnStringEndMatchesBackslashParityWrong : ChangeSpec := { name := "fnStringEndMatchesBackslashParity", fn := fun _ => fun
  | [d1, d2] => { results := [.lit (.bool false)], args := [d1, d2] }
  | _ => none }
def FnStringEndMatchesBackslashParityWrongFalsely : Prop := fnStringEndMatchesBackslashParityRow.holds Try.pinned (OpenSpec.ofChange fnStringEndMatchesBackslashParityWrong)

/-- 'zzlaws_internal_httpapi_b1.FnStringEndFindsEscapedLiteral': WHATEVER THE INPUT: true; the input reads as it did. -/
def fnStringEndFindsEscapedLiteralSpec : ChangeSpec := { name := "fnStringEndFindsEscapedLiteral", fn := fun _ => fun
  | [d1, d2] => { results := [.lit (.bool true)], args := [d1, d2] }
  | _ => none }
def fnStringEndFindsEscapedLiteralRow : OpenClaim := { program := "qxb6605558a", sum := "b7fde731b61397bc60ba9f0593a4f5defef8a66c0047154f0b8a77a046e8c67f", func := "example.com/cohort-gate/cohort-gate/zzlaws_internal_httpapi_b1.FnStringEndFindsEscapedLiteral", spec := "fnStringEndFindsEscapedLiteral", apart := false }
def FnStringEndFindsEscapedLiteralSaid : Prop := fnStringEndFindsEscapedLiteralRow.holds Try.pinned (OpenSpec.ofChange fnStringEndFindsEscapedLiteralSpec)

/-- ITS FALSE NEIGHBOUR: 'it returns false'. Refute it at one input. -/
def fnStringEndFindsEscapedLiteralWrong : ChangeSpec := { name := "fnStringEndFindsEscapedLiteral", fn := fun _ => fun
  | [d1, d2] => { results := [.lit (.bool false)], args := [d1, d2] }
  | _ => none }
def FnStringEndFindsEscapedLiteralWrongFalsely : Prop := fnStringEndFindsEscapedLiteralRow.holds Try.pinned (OpenSpec.ofChange fnStringEndFindsEscapedLiteralWrong)

/-- 'zzlaws_internal_httpapi_b1.FnValueEndMatchesScannerModel': WHATEVER THE INPUT: true; the input reads as it did. -/
def fnValueEndMatchesScannerModelSpec : ChangeSpec := { name := "fnValueEndMatchesScannerModel", fn := fun _ => fun
  | [d1, d2] => { results := [.lit (.bool true)], args := [d1, d2] }
  | _ => none }
def fnValueEndMatchesScannerModelRow : OpenClaim := { program := "qxb6605558a", sum := "b7fde731b61397bc60ba9f0593a4f5defef8a66c0047154f0b8a77a046e8c67f", func := "example.com/cohort-gate/cohort-gate/zzlaws_internal_httpapi_b1.FnValueEndMatchesScannerModel", spec := "fnValueEndMatchesScannerModel", apart := false }
def FnValueEndMatchesScannerModelSaid : Prop := fnValueEndMatchesScannerModelRow.holds Try.pinned (OpenSpec.ofChange fnValueEndMatchesScannerModelSpec)

/-- ITS FALSE NEIGHBOUR: 'it returns false'. Refute it at one input. -/
def fnValueEndMatchesScannerModelWrong : ChangeSpec := { name := "fnValueEndMatchesScannerModel", fn := fun _ => fun
  | [d1, d2] => { results := [.lit (.bool false)], args := [d1, d2] }
  | _ => none }
def FnValueEndMatchesScannerModelWrongFalsely : Prop := fnValueEndMatchesScannerModelRow.holds Try.pinned (OpenSpec.ofChange fnValueEndMatchesScannerModelWrong)

/-- 'zzlaws_internal_httpapi_b1.FnValueEndSpansNestedLiteral': WHATEVER THE INPUT: true; the input reads as it did. -/
def fnValueEndSpansNestedLiteralSpec : ChangeSpec := { name := "fnValueEndSpansNestedLiteral", fn := fun _ => fun
  | [d1, d2, d3] => { results := [.lit (.bool true)], args := [d1, d2, d3] }
  | _ => none }
def fnValueEndSpansNestedLiteralRow : OpenClaim := { program := "qxb6605558a", sum := "b7fde731b61397bc60ba9f0593a4f5defef8a66c0047154f0b8a77a046e8c67f", func := "example.com/cohort-gate/cohort-gate/zzlaws_internal_httpapi_b1.FnValueEndSpansNestedLiteral", spec := "fnValueEndSpansNestedLiteral", apart := false }
def FnValueEndSpansNestedLiteralSaid : Prop := fnValueEndSpansNestedLiteralRow.holds Try.pinned (OpenSpec.ofChange fnValueEndSpansNestedLiteralSpec)

/-- ITS FALSE NEIGHBOUR: 'it returns false'. Refute it at one input. -/
def fnValueEndSpansNestedLiteralWrong : ChangeSpec := { name := "fnValueEndSpansNestedLiteral", fn := fun _ => fun
  | [d1, d2, d3] => { results := [.lit (.bool false)], args := [d1, d2, d3] }
  | _ => none }
def FnValueEndSpansNestedLiteralWrongFalsely : Prop := fnValueEndSpansNestedLiteralRow.holds Try.pinned (OpenSpec.ofChange fnValueEndSpansNestedLiteralWrong)

/-- 'zzlaws_internal_httpapi_b1.FnNestsDeeperMatchesMaxDepth': WHATEVER THE INPUT: true; the input reads as it did. -/
def fnNestsDeeperMatchesMaxDepthSpec : ChangeSpec := { name := "fnNestsDeeperMatchesMaxDepth", fn := fun _ => fun
  | [d1, d2] => { results := [.lit (.bool true)], args := [d1, d2] }
  | _ => none }
def fnNestsDeeperMatchesMaxDepthRow : OpenClaim := { program := "qxb6605558a", sum := "b7fde731b61397bc60ba9f0593a4f5defef8a66c0047154f0b8a77a046e8c67f", func := "example.com/cohort-gate/cohort-gate/zzlaws_internal_httpapi_b1.FnNestsDeeperMatchesMaxDepth", spec := "fnNestsDeeperMatchesMaxDepth", apart := false }
def FnNestsDeeperMatchesMaxDepthSaid : Prop := fnNestsDeeperMatchesMaxDepthRow.holds Try.pinned (OpenSpec.ofChange fnNestsDeeperMatchesMaxDepthSpec)

/-- ITS FALSE NEIGHBOUR: 'it returns false'. Refute it at one input. -/
def fnNestsDeeperMatchesMaxDepthWrong : ChangeSpec := { name := "fnNestsDeeperMatchesMaxDepth", fn := fun _ => fun
  | [d1, d2] => { results := [.lit (.bool false)], args := [d1, d2] }
  | _ => none }
def FnNestsDeeperMatchesMaxDepthWrongFalsely : Prop := fnNestsDeeperMatchesMaxDepthRow.holds Try.pinned (OpenSpec.ofChange fnNestsDeeperMatchesMaxDepthWrong)

/-- 'zzlaws_internal_httpapi_b1.FnNestsDeeperCountsWrappedLevels': WHATEVER THE INPUT: true; the input reads as it did. -/
def fnNestsDeeperCountsWrappedLevelsSpec : ChangeSpec := { name := "fnNestsDeeperCountsWrappedLevels", fn := fun _ => fun
  | [d1, d2, d3] => { results := [.lit (.bool true)], args := [d1, d2, d3] }
  | _ => none }
def fnNestsDeeperCountsWrappedLevelsRow : OpenClaim := { program := "qxb6605558a", sum := "b7fde731b61397bc60ba9f0593a4f5defef8a66c0047154f0b8a77a046e8c67f", func := "example.com/cohort-gate/cohort-gate/zzlaws_internal_httpapi_b1.FnNestsDeeperCountsWrappedLevels", spec := "fnNestsDeeperCountsWrappedLevels", apart := false }
def FnNestsDeeperCountsWrappedLevelsSaid : Prop := fnNestsDeeperCountsWrappedLevelsRow.holds Try.pinned (OpenSpec.ofChange fnNestsDeeperCountsWrappedLevelsSpec)

/-- ITS FALSE NEIGHBOUR: 'it returns false'. Refute it at one input. -/
def fnNestsDeeperCountsWrappedLevelsWrong : ChangeSpec := { name := "fnNestsDeeperCountsWrappedLevels", fn := fun _ => fun
  | [d1, d2, d3] => { results := [.lit (.bool false)], args := [d1, d2, d3] }
  | _ => none }
def FnNestsDeeperCountsWrappedLevelsWrongFalsely : Prop := fnNestsDeeperCountsWrappedLevelsRow.holds Try.pinned (OpenSpec.ofChange fnNestsDeeperCountsWrappedLevelsWrong)

end Rows
end Go.Proofs.Qxb6605558a
