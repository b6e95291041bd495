/-
  No cell of these rows narrows 'for every input' (looked for: loops, veiled, ifaces, maps, wideKeys, modest, calm, conditions, laid).
  DERIVED. THE GIVEN ROWS OF THIS SEAT. 2 by the template 'for every input the law returns true; each argument reads behind the call as it read before'; 0 by the template 'total and deterministic' (their statements: Qxb6003634aTotals.lean).
  GIVEN WITH THE SEED: the statements are not yours to turn. If you find one false, say at which input.
  Laid BY PROGRAM, IN A SANDBOX (cutbox-rows.mjs): the forced cells as the released guide's own fill.sh prints them over the translation 7c0061670bc0b4d6… (all of the seat's roots in one cut). By AI agents, Wed Nov 11 2026. No macro, syntax, notation, axiom, sorry.
-/
import Derived.Test.Qxb6003634aChecked
import GoSem.Claim
import GoSem.ClaimJoined
import GoSem.ClaimMapViews
import Derived.JoinedTies
import Derived.KernelRfl
namespace Go.Proofs.Qxb6003634a
/- THE CELL 'sum', in the pinned program and in every row, IS THE sha256 OF THE DUMP (.gsa) THAT Qxb6003634aProg.lean LOADS. Nothing in Lean hashes anything: it is a label: what it is worth is what the hold of that sum in a sandbox is worth. -/
noncomputable def Try.pinned : Pinned := { name := "qxb6003634a", sum := "7c0061670bc0b4d6d51f28f9277580e31ba89f5340e41e031188c5f77bb9fdcc", checked := Try.checked }
namespace Rows
def none {H : Type} : Left H := { results := [], args := [] }

/-- 'zzlaws_pkg_sheet_b1.FnPrivateUseRanksCodesInOrder': WHATEVER THE INPUT: true; the input reads as it did. -/
def fnPrivateUseRanksCodesInOrderSpec : ChangeSpec := { name := "fnPrivateUseRanksCodesInOrder", fn := fun _ => fun
  | [d1, d2] => { results := [.lit (.bool true)], args := [d1, d2] }
  | _ => none }
def fnPrivateUseRanksCodesInOrderRow : OpenClaim := { program := "qxb6003634a", sum := "7c0061670bc0b4d6d51f28f9277580e31ba89f5340e41e031188c5f77bb9fdcc", func := "example.com/vestbook/vestbook/zzlaws_pkg_sheet_b1.FnPrivateUseRanksCodesInOrder", spec := "fnPrivateUseRanksCodesInOrder", apart := false }
def FnPrivateUseRanksCodesInOrderSaid : Prop := fnPrivateUseRanksCodesInOrderRow.holds Try.pinned (OpenSpec.ofChange fnPrivateUseRanksCodesInOrderSpec)

/-- ITS FALSE NEIGHBOUR: 'it returns false'. Refute it at one input. -/
def fnPrivateUseRanksCodesInOrderWrong : ChangeSpec := { name := "fnPrivateUseRanksCodesInOrder", fn := fun _ => fun
  | [d1, d2] => { results := [.lit (.bool false)], args := [d1, d2] }
  | _ => none }
def FnPrivateUseRanksCodesInOrderWrongFalsely : Prop := fnPrivateUseRanksCodesInOrderRow.holds Try.pinned (OpenSpec.ofChange fnPrivateUseRanksCodesInOrderWrong)

/-- 'zzlaws_pkg_sheet_b1.FnCodeLengthIsShortestStableCode': WHATEVER THE INPUT: true; the input reads as it did. -/
def fnCodeLengthIsShortestStableCodeSpec : ChangeSpec := { name := "fnCodeLengthIsShortestStableCode", fn := fun _ => fun
  | [d1, d2] => { results := [.lit (.bool true)], args := [d1, d2] }
  | _ => none }
def fnCodeLengthIsShortestStableCodeRow : OpenClaim := { program := "qxb6003634a", sum := "7c0061670bc0b4d6d51f28f9277580e31ba89f5340e41e031188c5f77bb9fdcc", func := "example.com/vestbook/vestbook/zzlaws_pkg_sheet_b1.FnCodeLengthIsShortestStableCode", spec := "fnCodeLengthIsShortestStableCode", apart := false }
def FnCodeLengthIsShortestStableCodeSaid : Prop := fnCodeLengthIsShortestStableCodeRow.holds Try.pinned (OpenSpec.ofChange fnCodeLengthIsShortestStableCodeSpec)

/-- ITS FALSE NEIGHBOUR: 'it returns false'. Refute it at one input. -/
def fnCodeLengthIsShortestStableCodeWrong : ChangeSpec := { name := "fnCodeLengthIsShortestStableCode", fn := fun _ => fun
  | [d1, d2] => { results := [.lit (.bool false)], args := [d1, d2] }
  | _ => none }
def FnCodeLengthIsShortestStableCodeWrongFalsely : Prop := fnCodeLengthIsShortestStableCodeRow.holds Try.pinned (OpenSpec.ofChange fnCodeLengthIsShortestStableCodeWrong)

end Rows
end Go.Proofs.Qxb6003634a
