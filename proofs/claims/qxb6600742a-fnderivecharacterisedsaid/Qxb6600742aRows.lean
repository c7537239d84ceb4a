/-
  No cell of these rows narrows 'for every input' (looked for: loops, veiled, ifaces, maps, wideKeys, modest, calm, conditions, laid).
  DERIVED. THE GIVEN ROWS OF THIS SEAT. 5 by the template 'for every input the law returns true; each argument reads behind the call as it read before'; 0 by the template 'total and deterministic' (their statements: Qxb6600742aTotals.lean).
  GIVEN WITH THE SEED: the statements are not yours to turn. If you find one false, say at which input.
  Laid BY PROGRAM, IN A SANDBOX (cutbox-rows.mjs): the forced cells as the released guide's own fill.sh prints them over the translation 9855cabd06f779d2… (all of the seat's roots in one cut). By AI agents, Wed Nov 11 2026. No macro, syntax, notation, axiom, sorry.
-/
import Derived.Test.Qxb6600742aChecked
import GoSem.Claim
import GoSem.ClaimJoined
import GoSem.ClaimMapViews
import Derived.JoinedTies
import Derived.KernelRfl
namespace Go.Proofs.Qxb6600742a
/- THE CELL 'sum', in the pinned program and in every row, IS THE sha256 OF THE DUMP (.gsa) THAT Qxb6600742aProg.lean LOADS. Nothing in Lean hashes anything: it is a label: what it is worth is what the hold of that sum in a sandbox is worth. -/
noncomputable def Try.pinned : Pinned := { name := "qxb6600742a", sum := "9855cabd06f779d20888742a382b58531b580aa8ee4150858e2f5469ae85a611", checked := Try.checked }
namespace Rows
def none {H : Type} : Left H := { results := [], args := [] }

/-- 'zzlaws_lie_b1.FnDeriveCharacterised': WHATEVER THE INPUT: true; the input reads as it did. -/
def fnDeriveCharacterisedSpec : ChangeSpec := { name := "fnDeriveCharacterised", fn := fun _ => fun
  | [d1, d2] => { results := [.lit (.bool true)], args := [d1, d2] }
  | _ => none }
def fnDeriveCharacterisedRow : OpenClaim := { program := "qxb6600742a", sum := "9855cabd06f779d20888742a382b58531b580aa8ee4150858e2f5469ae85a611", func := "example.com/spinehail/spinehail/zzlaws_lie_b1.FnDeriveCharacterised", spec := "fnDeriveCharacterised", apart := false }
def FnDeriveCharacterisedSaid : Prop := fnDeriveCharacterisedRow.holds Try.pinned (OpenSpec.ofChange fnDeriveCharacterisedSpec)

/-- ITS FALSE NEIGHBOUR: 'it returns false'. Refute it at one input. -/
def fnDeriveCharacterisedWrong : ChangeSpec := { name := "fnDeriveCharacterised", fn := fun _ => fun
  | [d1, d2] => { results := [.lit (.bool false)], args := [d1, d2] }
  | _ => none }
def FnDeriveCharacterisedWrongFalsely : Prop := fnDeriveCharacterisedRow.holds Try.pinned (OpenSpec.ofChange fnDeriveCharacterisedWrong)

/-- 'zzlaws_lie_b1.FnDeriveUnion': WHATEVER THE INPUT: true; the input reads as it did. -/
def fnDeriveUnionSpec : ChangeSpec := { name := "fnDeriveUnion", fn := fun _ => fun
  | [d1, d2, d3, d4] => { results := [.lit (.bool true)], args := [d1, d2, d3, d4] }
  | _ => none }
def fnDeriveUnionRow : OpenClaim := { program := "qxb6600742a", sum := "9855cabd06f779d20888742a382b58531b580aa8ee4150858e2f5469ae85a611", func := "example.com/spinehail/spinehail/zzlaws_lie_b1.FnDeriveUnion", spec := "fnDeriveUnion", apart := false }
def FnDeriveUnionSaid : Prop := fnDeriveUnionRow.holds Try.pinned (OpenSpec.ofChange fnDeriveUnionSpec)

/-- ITS FALSE NEIGHBOUR: 'it returns false'. Refute it at one input. -/
def fnDeriveUnionWrong : ChangeSpec := { name := "fnDeriveUnion", fn := fun _ => fun
  | [d1, d2, d3, d4] => { results := [.lit (.bool false)], args := [d1, d2, d3, d4] }
  | _ => none }
def FnDeriveUnionWrongFalsely : Prop := fnDeriveUnionRow.holds Try.pinned (OpenSpec.ofChange fnDeriveUnionWrong)

/-- 'zzlaws_lie_b1.FnLevelsAllowAdjacencyAboveLeavesSymmetric': WHATEVER THE INPUT: true; the input reads as it did. -/
def fnLevelsAllowAdjacencyAboveLeavesSymmetricSpec : ChangeSpec := { name := "fnLevelsAllowAdjacencyAboveLeavesSymmetric", fn := fun _ => fun
  | [d1, d2, d3, d4] => { results := [.lit (.bool true)], args := [d1, d2, d3, d4] }
  | _ => none }
def fnLevelsAllowAdjacencyAboveLeavesSymmetricRow : OpenClaim := { program := "qxb6600742a", sum := "9855cabd06f779d20888742a382b58531b580aa8ee4150858e2f5469ae85a611", func := "example.com/spinehail/spinehail/zzlaws_lie_b1.FnLevelsAllowAdjacencyAboveLeavesSymmetric", spec := "fnLevelsAllowAdjacencyAboveLeavesSymmetric", apart := false }
def FnLevelsAllowAdjacencyAboveLeavesSymmetricSaid : Prop := fnLevelsAllowAdjacencyAboveLeavesSymmetricRow.holds Try.pinned (OpenSpec.ofChange fnLevelsAllowAdjacencyAboveLeavesSymmetricSpec)

/-- ITS FALSE NEIGHBOUR: 'it returns false'. Refute it at one input. -/
def fnLevelsAllowAdjacencyAboveLeavesSymmetricWrong : ChangeSpec := { name := "fnLevelsAllowAdjacencyAboveLeavesSymmetric", fn := fun _ => fun
  | [d1, d2, d3, d4] => { results := [.lit (.bool false)], args := [d1, d2, d3, d4] }
  | _ => none }
def FnLevelsAllowAdjacencyAboveLeavesSymmetricWrongFalsely : Prop := fnLevelsAllowAdjacencyAboveLeavesSymmetricRow.holds Try.pinned (OpenSpec.ofChange fnLevelsAllowAdjacencyAboveLeavesSymmetricWrong)

/-- 'zzlaws_lie_b1.FnLevelsAllowAdjacencyHatNarrows': WHATEVER THE INPUT: true; the input reads as it did. -/
def fnLevelsAllowAdjacencyHatNarrowsSpec : ChangeSpec := { name := "fnLevelsAllowAdjacencyHatNarrows", fn := fun _ => fun
  | [d1, d2, d3, d4] => { results := [.lit (.bool true)], args := [d1, d2, d3, d4] }
  | _ => none }
def fnLevelsAllowAdjacencyHatNarrowsRow : OpenClaim := { program := "qxb6600742a", sum := "9855cabd06f779d20888742a382b58531b580aa8ee4150858e2f5469ae85a611", func := "example.com/spinehail/spinehail/zzlaws_lie_b1.FnLevelsAllowAdjacencyHatNarrows", spec := "fnLevelsAllowAdjacencyHatNarrows", apart := false }
def FnLevelsAllowAdjacencyHatNarrowsSaid : Prop := fnLevelsAllowAdjacencyHatNarrowsRow.holds Try.pinned (OpenSpec.ofChange fnLevelsAllowAdjacencyHatNarrowsSpec)

/-- ITS FALSE NEIGHBOUR: 'it returns false'. Refute it at one input. -/
def fnLevelsAllowAdjacencyHatNarrowsWrong : ChangeSpec := { name := "fnLevelsAllowAdjacencyHatNarrows", fn := fun _ => fun
  | [d1, d2, d3, d4] => { results := [.lit (.bool false)], args := [d1, d2, d3, d4] }
  | _ => none }
def FnLevelsAllowAdjacencyHatNarrowsWrongFalsely : Prop := fnLevelsAllowAdjacencyHatNarrowsRow.holds Try.pinned (OpenSpec.ofChange fnLevelsAllowAdjacencyHatNarrowsWrong)

/-- 'zzlaws_lie_b1.FnHoldsDownUnion': WHATEVER THE INPUT: true; the input reads as it did. -/
def fnHoldsDownUnionSpec : ChangeSpec := { name := "fnHoldsDownUnion", fn := fun _ => fun
  | [d1, d2, d3, d4, d5, d6] => { results := [.lit (.bool true)], args := [d1, d2, d3, d4, d5, d6] }
  | _ => none }
def fnHoldsDownUnionRow : OpenClaim := { program := "qxb6600742a", sum := "9855cabd06f779d20888742a382b58531b580aa8ee4150858e2f5469ae85a611", func := "example.com/spinehail/spinehail/zzlaws_lie_b1.FnHoldsDownUnion", spec := "fnHoldsDownUnion", apart := false }
def FnHoldsDownUnionSaid : Prop := fnHoldsDownUnionRow.holds Try.pinned (OpenSpec.ofChange fnHoldsDownUnionSpec)

/-- ITS FALSE NEIGHBOUR: 'it returns false'. Refute it at one input. -/
def fnHoldsDownUnionWrong : ChangeSpec := { name := "fnHoldsDownUnion", fn := fun _ => fun
  | [d1, d2, d3, d4, d5, d6] => { results := [.lit (.bool false)], args := [d1, d2, d3, d4, d5, d6] }
  | _ => none }
def FnHoldsDownUnionWrongFalsely : Prop := fnHoldsDownUnionRow.holds Try.pinned (OpenSpec.ofChange fnHoldsDownUnionWrong)

end Rows
end Go.Proofs.Qxb6600742a
