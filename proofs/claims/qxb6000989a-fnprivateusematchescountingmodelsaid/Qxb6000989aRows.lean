/-
  No cell of these rows narrows 'for every input' (looked for: loops, veiled, ifaces, maps, wideKeys, modest, calm, conditions, laid).
  DERIVED. THE GIVEN ROWS OF THIS SEAT. 5 by the template 'for every input the law returns true; each argument reads behind the call as it read before'; 0 by the template 'total and deterministic' (their statements: Qxb6000989aTotals.lean).
  GIVEN WITH THE SEED: the statements are not yours to turn. If you find one false, say at which input.
  Laid BY PROGRAM, IN A SANDBOX (cutbox-rows.mjs): the forced cells as the released guide's own fill.sh prints them over the translation 92485eb23a4f5c53… (all of the seat's roots in one cut). By AI agents, Wed Nov 11 2026. No macro, syntax, notation, axiom, sorry.
-/
import Derived.Test.Qxb6000989aChecked
import GoSem.Claim
import GoSem.ClaimJoined
import GoSem.ClaimMapViews
import Derived.JoinedTies
import Derived.KernelRfl
namespace Go.Proofs.Qxb6000989a
/- THE CELL 'sum', in the pinned program and in every row, IS THE sha256 OF THE DUMP (.gsa) THAT Qxb6000989aProg.lean LOADS. Nothing in Lean hashes anything: it is a label: what it is worth is what the hold of that sum in a sandbox is worth. -/
noncomputable def Try.pinned : Pinned := { name := "qxb6000989a", sum := "92485eb23a4f5c539893687f8177a819edfdc991065bedaba8458d3dbbf3e209", checked := Try.checked }
namespace Rows
def none {H : Type} : Left H := { results := [], args := [] }

/-- 'zzlaws_pkg_sheet_b1.FnCodeLengthBoundedByInput': WHATEVER THE INPUT: true; the input reads as it did. -/
def fnCodeLengthBoundedByInputSpec : ChangeSpec := { name := "fnCodeLengthBoundedByInput", fn := fun _ => fun
  | [d] => { results := [.lit (.bool true)], args := [d] }
  | _ => none }
def fnCodeLengthBoundedByInputRow : OpenClaim := { program := "qxb6000989a", sum := "92485eb23a4f5c539893687f8177a819edfdc991065bedaba8458d3dbbf3e209", func := "example.com/vestbook/vestbook/zzlaws_pkg_sheet_b1.FnCodeLengthBoundedByInput", spec := "fnCodeLengthBoundedByInput", apart := false }
def FnCodeLengthBoundedByInputSaid : Prop := fnCodeLengthBoundedByInputRow.holds Try.pinned (OpenSpec.ofChange fnCodeLengthBoundedByInputSpec)

/-- ITS FALSE NEIGHBOUR: 'it returns false'. Refute it at one input. -/
def fnCodeLengthBoundedByInputWrong : ChangeSpec := { name := "fnCodeLengthBoundedByInput", fn := fun _ => fun
  | [d] => { results := [.lit (.bool false)], args := [d] }
  | _ => none }
def FnCodeLengthBoundedByInputWrongFalsely : Prop := fnCodeLengthBoundedByInputRow.holds Try.pinned (OpenSpec.ofChange fnCodeLengthBoundedByInputWrong)

/-- 'zzlaws_pkg_sheet_b1.FnCodeLengthDependsOnlyOnItsCode': WHATEVER THE INPUT: true; the input reads as it did. -/
def fnCodeLengthDependsOnlyOnItsCodeSpec : ChangeSpec := { name := "fnCodeLengthDependsOnlyOnItsCode", fn := fun _ => fun
  | [d1, d2] => { results := [.lit (.bool true)], args := [d1, d2] }
  | _ => none }
def fnCodeLengthDependsOnlyOnItsCodeRow : OpenClaim := { program := "qxb6000989a", sum := "92485eb23a4f5c539893687f8177a819edfdc991065bedaba8458d3dbbf3e209", func := "example.com/vestbook/vestbook/zzlaws_pkg_sheet_b1.FnCodeLengthDependsOnlyOnItsCode", spec := "fnCodeLengthDependsOnlyOnItsCode", apart := false }
def FnCodeLengthDependsOnlyOnItsCodeSaid : Prop := fnCodeLengthDependsOnlyOnItsCodeRow.holds Try.pinned (OpenSpec.ofChange fnCodeLengthDependsOnlyOnItsCodeSpec)

/-- ITS FALSE NEIGHBOUR: 'it returns false'. Refute it at one input. -/
def fnCodeLengthDependsOnlyOnItsCodeWrong : ChangeSpec := { name := "fnCodeLengthDependsOnlyOnItsCode", fn := fun _ => fun
  | [d1, d2] => { results := [.lit (.bool false)], args := [d1, d2] }
  | _ => none }
def FnCodeLengthDependsOnlyOnItsCodeWrongFalsely : Prop := fnCodeLengthDependsOnlyOnItsCodeRow.holds Try.pinned (OpenSpec.ofChange fnCodeLengthDependsOnlyOnItsCodeWrong)

/-- 'zzlaws_pkg_sheet_b1.FnPrivateUseMatchesCountingModel': WHATEVER THE INPUT: true; the input reads as it did. -/
def fnPrivateUseMatchesCountingModelSpec : ChangeSpec := { name := "fnPrivateUseMatchesCountingModel", fn := fun _ => fun
  | [d1, d2] => { results := [.lit (.bool true)], args := [d1, d2] }
  | _ => none }
def fnPrivateUseMatchesCountingModelRow : OpenClaim := { program := "qxb6000989a", sum := "92485eb23a4f5c539893687f8177a819edfdc991065bedaba8458d3dbbf3e209", func := "example.com/vestbook/vestbook/zzlaws_pkg_sheet_b1.FnPrivateUseMatchesCountingModel", spec := "fnPrivateUseMatchesCountingModel", apart := false }
def FnPrivateUseMatchesCountingModelSaid : Prop := fnPrivateUseMatchesCountingModelRow.holds Try.pinned (OpenSpec.ofChange fnPrivateUseMatchesCountingModelSpec)

/-- ITS FALSE NEIGHBOUR: 'it returns false'. Refute it at one input. -/
def fnPrivateUseMatchesCountingModelWrong : ChangeSpec := { name := "fnPrivateUseMatchesCountingModel", fn := fun _ => fun
  | [d1, d2] => { results := [.lit (.bool false)], args := [d1, d2] }
  | _ => none }
def FnPrivateUseMatchesCountingModelWrongFalsely : Prop := fnPrivateUseMatchesCountingModelRow.holds Try.pinned (OpenSpec.ofChange fnPrivateUseMatchesCountingModelWrong)

/-- 'zzlaws_pkg_sheet_b1.FnPrivateUseInvertsModelEncoder': WHATEVER THE INPUT: true; the input reads as it did. -/
def fnPrivateUseInvertsModelEncoderSpec : ChangeSpec := { name := "fnPrivateUseInvertsModelEncoder", fn := fun _ => fun
  | [d] => { results := [.lit (.bool true)], args := [d] }
  | _ => none }
def fnPrivateUseInvertsModelEncoderRow : OpenClaim := { program := "qxb6000989a", sum := "92485eb23a4f5c539893687f8177a819edfdc991065bedaba8458d3dbbf3e209", func := "example.com/vestbook/vestbook/zzlaws_pkg_sheet_b1.FnPrivateUseInvertsModelEncoder", spec := "fnPrivateUseInvertsModelEncoder", apart := false }
def FnPrivateUseInvertsModelEncoderSaid : Prop := fnPrivateUseInvertsModelEncoderRow.holds Try.pinned (OpenSpec.ofChange fnPrivateUseInvertsModelEncoderSpec)

/-- ITS FALSE NEIGHBOUR: 'it returns false'. Refute it at one input. -/
def fnPrivateUseInvertsModelEncoderWrong : ChangeSpec := { name := "fnPrivateUseInvertsModelEncoder", fn := fun _ => fun
  | [d] => { results := [.lit (.bool false)], args := [d] }
  | _ => none }
def FnPrivateUseInvertsModelEncoderWrongFalsely : Prop := fnPrivateUseInvertsModelEncoderRow.holds Try.pinned (OpenSpec.ofChange fnPrivateUseInvertsModelEncoderWrong)

/-- 'zzlaws_pkg_sheet_b1.FnPrivateUseInjectiveAndOrdered': WHATEVER THE INPUT: true; the input reads as it did. -/
def fnPrivateUseInjectiveAndOrderedSpec : ChangeSpec := { name := "fnPrivateUseInjectiveAndOrdered", fn := fun _ => fun
  | [d1, d2, d3, d4] => { results := [.lit (.bool true)], args := [d1, d2, d3, d4] }
  | _ => none }
def fnPrivateUseInjectiveAndOrderedRow : OpenClaim := { program := "qxb6000989a", sum := "92485eb23a4f5c539893687f8177a819edfdc991065bedaba8458d3dbbf3e209", func := "example.com/vestbook/vestbook/zzlaws_pkg_sheet_b1.FnPrivateUseInjectiveAndOrdered", spec := "fnPrivateUseInjectiveAndOrdered", apart := false }
def FnPrivateUseInjectiveAndOrderedSaid : Prop := fnPrivateUseInjectiveAndOrderedRow.holds Try.pinned (OpenSpec.ofChange fnPrivateUseInjectiveAndOrderedSpec)

/-- ITS FALSE NEIGHBOUR: 'it returns false'. Refute it at one input. -/
def fnPrivateUseInjectiveAndOrderedWrong : ChangeSpec := { name := "fnPrivateUseInjectiveAndOrdered", fn := fun _ => fun
  | [d1, d2, d3, d4] => { results := [.lit (.bool false)], args := [d1, d2, d3, d4] }
  | _ => none }
def FnPrivateUseInjectiveAndOrderedWrongFalsely : Prop := fnPrivateUseInjectiveAndOrderedRow.holds Try.pinned (OpenSpec.ofChange fnPrivateUseInjectiveAndOrderedWrong)

end Rows
end Go.Proofs.Qxb6000989a
