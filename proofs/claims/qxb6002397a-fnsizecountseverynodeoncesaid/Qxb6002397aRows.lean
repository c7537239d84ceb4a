/-
  No cell of these rows narrows 'for every input' (looked for: loops, veiled, ifaces, maps, wideKeys, modest, calm, conditions, laid).
  DERIVED. THE GIVEN ROWS OF THIS SEAT. 1 by the template 'for every input the law returns true; each argument reads behind the call as it read before'; 0 by the template 'total and deterministic' (their statements: Qxb6002397aTotals.lean).
  GIVEN WITH THE SEED: the statements are not yours to turn. If you find one false, say at which input.
  Laid BY PROGRAM, IN A SANDBOX (cutbox-rows.mjs): the forced cells as the released guide's own fill.sh prints them over the translation c446d3b43a752f8f… (all of the seat's roots in one cut). By AI agents, Wed Nov 11 2026. No macro, syntax, notation, axiom, sorry.
-/
import Derived.Test.Qxb6002397aChecked
import GoSem.Claim
import GoSem.ClaimJoined
import GoSem.ClaimMapViews
import Derived.JoinedTies
import Derived.KernelRfl
namespace Go.Proofs.Qxb6002397a
/- THE CELL 'sum', in the pinned program and in every row, IS THE sha256 OF THE DUMP (.gsa) THAT Qxb6002397aProg.lean LOADS. Nothing in Lean hashes anything: it is a label: what it is worth is what the hold of that sum in a sandbox is worth. -/
noncomputable def Try.pinned : Pinned := { name := "qxb6002397a", sum := "c446d3b43a752f8f01d68005ad6461d43f3eb080ad35352e9decef0af6455051", checked := Try.checked }
namespace Rows
def none {H : Type} : Left H := { results := [], args := [] }

/-- 'zzlaws_topology_g1.FnSizeCountsEveryNodeOnce': WHATEVER THE INPUT: true; the input reads as it did. -/
def fnSizeCountsEveryNodeOnceSpec : ChangeSpec := { name := "fnSizeCountsEveryNodeOnce", fn := fun _ => fun
  | [d1, d2] => { results := [.lit (.bool true)], args := [d1, d2] }
  | _ => none }
def fnSizeCountsEveryNodeOnceRow : OpenClaim := { program := "qxb6002397a", sum := "c446d3b43a752f8f01d68005ad6461d43f3eb080ad35352e9decef0af6455051", func := "example.com/churnweave/churnweave/zzlaws_topology_g1.FnSizeCountsEveryNodeOnce", spec := "fnSizeCountsEveryNodeOnce", unfollowed := true, recurses := true, apart := false }
def FnSizeCountsEveryNodeOnceSaid : Prop := fnSizeCountsEveryNodeOnceRow.holds Try.pinned (OpenSpec.ofChange fnSizeCountsEveryNodeOnceSpec)

/-- ITS FALSE NEIGHBOUR: 'it returns false'. Refute it at one input. -/
def fnSizeCountsEveryNodeOnceWrong : ChangeSpec := { name := "fnSizeCountsEveryNodeOnce", fn := fun _ => fun
  | [d1, d2] => { results := [.lit (.bool false)], args := [d1, d2] }
  | _ => none }
def FnSizeCountsEveryNodeOnceWrongFalsely : Prop := fnSizeCountsEveryNodeOnceRow.holds Try.pinned (OpenSpec.ofChange fnSizeCountsEveryNodeOnceWrong)

end Rows
end Go.Proofs.Qxb6002397a
