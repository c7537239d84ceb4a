/-
  No cell of these rows narrows 'for every input' (looked for: loops, veiled, ifaces, maps, wideKeys, modest, calm, conditions, laid).
  DERIVED. THE GIVEN ROWS OF THIS SEAT. 4 by the template 'for every input the law returns true; each argument reads behind the call as it read before'; 0 by the template 'total and deterministic' (their statements: Qxb6000725aTotals.lean).
  GIVEN WITH THE SEED: the statements are not yours to turn. If you find one false, say at which input.
  Laid BY PROGRAM, IN A SANDBOX (cutbox-rows.mjs): the forced cells as the released guide's own fill.sh prints them over the translation 0bdaa9983df64e08… (all of the seat's roots in one cut). By AI agents, Wed Nov 11 2026. No macro, syntax, notation, axiom, sorry.
-/
import Derived.Test.Qxb6000725aChecked
import GoSem.Claim
import GoSem.ClaimJoined
import GoSem.ClaimMapViews
import Derived.JoinedTies
import Derived.KernelRfl
namespace Go.Proofs.Qxb6000725a
/- THE CELL 'sum', in the pinned program and in every row, IS THE sha256 OF THE DUMP (.gsa) THAT Qxb6000725aProg.lean LOADS. Nothing in Lean hashes anything: it is a label: what it is worth is what the hold of that sum in a sandbox is worth. -/
noncomputable def Try.pinned : Pinned := { name := "qxb6000725a", sum := "0bdaa9983df64e0886eca0c7c079777eb7fa4c63b62a691202477fff1f6909b0", checked := Try.checked }
namespace Rows
def none {H : Type} : Left H := { results := [], args := [] }

/-- 'zzlaws_pkg_rate_b1.FnDigitsCountsDigitCharacters': WHATEVER THE INPUT: true; the input reads as it did. -/
def fnDigitsCountsDigitCharactersSpec : ChangeSpec := { name := "fnDigitsCountsDigitCharacters", fn := fun _ => fun
  | [d1, d2, d3, d4] => { results := [.lit (.bool true)], args := [d1, d2, d3, d4] }
  | _ => none }
def fnDigitsCountsDigitCharactersRow : OpenClaim := { program := "qxb6000725a", sum := "0bdaa9983df64e0886eca0c7c079777eb7fa4c63b62a691202477fff1f6909b0", func := "example.com/tenderbook/tenderbook/zzlaws_pkg_rate_b1.FnDigitsCountsDigitCharacters", spec := "fnDigitsCountsDigitCharacters", apart := false }
def FnDigitsCountsDigitCharactersSaid : Prop := fnDigitsCountsDigitCharactersRow.holds Try.pinned (OpenSpec.ofChange fnDigitsCountsDigitCharactersSpec)

/-- ITS FALSE NEIGHBOUR: 'it returns false'. Refute it at one input. -/
def fnDigitsCountsDigitCharactersWrong : ChangeSpec := { name := "fnDigitsCountsDigitCharacters", fn := fun _ => fun
  | [d1, d2, d3, d4] => { results := [.lit (.bool false)], args := [d1, d2, d3, d4] }
  | _ => none }
def FnDigitsCountsDigitCharactersWrongFalsely : Prop := fnDigitsCountsDigitCharactersRow.holds Try.pinned (OpenSpec.ofChange fnDigitsCountsDigitCharactersWrong)

/-- 'zzlaws_pkg_rate_b1.FnDigitsIgnoresSignAndBounds': WHATEVER THE INPUT: true; the input reads as it did. -/
def fnDigitsIgnoresSignAndBoundsSpec : ChangeSpec := { name := "fnDigitsIgnoresSignAndBounds", fn := fun _ => fun
  | [d1, d2, d3, d4] => { results := [.lit (.bool true)], args := [d1, d2, d3, d4] }
  | _ => none }
def fnDigitsIgnoresSignAndBoundsRow : OpenClaim := { program := "qxb6000725a", sum := "0bdaa9983df64e0886eca0c7c079777eb7fa4c63b62a691202477fff1f6909b0", func := "example.com/tenderbook/tenderbook/zzlaws_pkg_rate_b1.FnDigitsIgnoresSignAndBounds", spec := "fnDigitsIgnoresSignAndBounds", apart := false }
def FnDigitsIgnoresSignAndBoundsSaid : Prop := fnDigitsIgnoresSignAndBoundsRow.holds Try.pinned (OpenSpec.ofChange fnDigitsIgnoresSignAndBoundsSpec)

/-- ITS FALSE NEIGHBOUR: 'it returns false'. Refute it at one input. -/
def fnDigitsIgnoresSignAndBoundsWrong : ChangeSpec := { name := "fnDigitsIgnoresSignAndBounds", fn := fun _ => fun
  | [d1, d2, d3, d4] => { results := [.lit (.bool false)], args := [d1, d2, d3, d4] }
  | _ => none }
def FnDigitsIgnoresSignAndBoundsWrongFalsely : Prop := fnDigitsIgnoresSignAndBoundsRow.holds Try.pinned (OpenSpec.ofChange fnDigitsIgnoresSignAndBoundsWrong)

/-- 'zzlaws_pkg_rate_b1.FnSortedByBitsIsStableSortByKey': WHATEVER THE INPUT: true; the input reads as it did. -/
def fnSortedByBitsIsStableSortByKeySpec : ChangeSpec := { name := "fnSortedByBitsIsStableSortByKey", fn := fun _ => fun
  | [d1, d2, d3] => { results := [.lit (.bool true)], args := [d1, d2, d3] }
  | _ => none }
def fnSortedByBitsIsStableSortByKeyRow : OpenClaim := { program := "qxb6000725a", sum := "0bdaa9983df64e0886eca0c7c079777eb7fa4c63b62a691202477fff1f6909b0", func := "example.com/tenderbook/tenderbook/zzlaws_pkg_rate_b1.FnSortedByBitsIsStableSortByKey", spec := "fnSortedByBitsIsStableSortByKey", unfollowed := true, recurses := true, apart := false }
def FnSortedByBitsIsStableSortByKeySaid : Prop := fnSortedByBitsIsStableSortByKeyRow.holds Try.pinned (OpenSpec.ofChange fnSortedByBitsIsStableSortByKeySpec)

/-- ITS FALSE NEIGHBOUR: 'it returns false'. Refute it at one input. -/
def fnSortedByBitsIsStableSortByKeyWrong : ChangeSpec := { name := "fnSortedByBitsIsStableSortByKey", fn := fun _ => fun
  | [d1, d2, d3] => { results := [.lit (.bool false)], args := [d1, d2, d3] }
  | _ => none }
def FnSortedByBitsIsStableSortByKeyWrongFalsely : Prop := fnSortedByBitsIsStableSortByKeyRow.holds Try.pinned (OpenSpec.ofChange fnSortedByBitsIsStableSortByKeyWrong)

/-- 'zzlaws_pkg_rate_b1.FnSortedByBitsBytesCompose': WHATEVER THE INPUT: true; the input reads as it did. -/
def fnSortedByBitsBytesComposeSpec : ChangeSpec := { name := "fnSortedByBitsBytesCompose", fn := fun _ => fun
  | [d1, d2, d3, d4] => { results := [.lit (.bool true)], args := [d1, d2, d3, d4] }
  | _ => none }
def fnSortedByBitsBytesComposeRow : OpenClaim := { program := "qxb6000725a", sum := "0bdaa9983df64e0886eca0c7c079777eb7fa4c63b62a691202477fff1f6909b0", func := "example.com/tenderbook/tenderbook/zzlaws_pkg_rate_b1.FnSortedByBitsBytesCompose", spec := "fnSortedByBitsBytesCompose", unfollowed := true, recurses := true, apart := false }
def FnSortedByBitsBytesComposeSaid : Prop := fnSortedByBitsBytesComposeRow.holds Try.pinned (OpenSpec.ofChange fnSortedByBitsBytesComposeSpec)

/-- ITS FALSE NEIGHBOUR: 'it returns false'. Refute it at one input. -/
def fnSortedByBitsBytesComposeWrong : ChangeSpec := { name := "fnSortedByBitsBytesCompose", fn := fun _ => fun
  | [d1, d2, d3, d4] => { results := [.lit (.bool false)], args := [d1, d2, d3, d4] }
  | _ => none }
def FnSortedByBitsBytesComposeWrongFalsely : Prop := fnSortedByBitsBytesComposeRow.holds Try.pinned (OpenSpec.ofChange fnSortedByBitsBytesComposeWrong)

end Rows
end Go.Proofs.Qxb6000725a
