/-
  No cell of these rows narrows 'for every input' (looked for: loops, veiled, ifaces, maps, wideKeys, modest, calm, conditions, laid).
  DERIVED. THE GIVEN ROWS OF THIS SEAT. 2 by the template 'for every input the law returns true; each argument reads behind the call as it read before'; 0 by the template 'total and deterministic' (their statements: Qxb6627924aTotals.lean).
  GIVEN WITH THE SEED: the statements are not yours to turn. If you find one false, say at which input.
  Laid BY PROGRAM, IN A SANDBOX (cutbox-rows.mjs): the forced cells as the released guide's own fill.sh prints them over the translation 55c535f62c39261a… (all of the seat's roots in one cut). By AI agents, Wed Nov 11 2026. No macro, syntax, notation, axiom, sorry.
-/
import Derived.Test.Qxb6627924aChecked
import GoSem.Claim
import GoSem.ClaimJoined
import GoSem.ClaimMapViews
import Derived.JoinedTies
import Derived.KernelRfl
namespace Go.Proofs.Qxb6627924a
/- THE CELL 'sum', in the pinned program and in every row, IS THE sha256 OF THE DUMP (.gsa) THAT Qxb6627924aProg.lean LOADS. Nothing in Lean hashes anything: it is a label: what it is worth is what the hold of that sum in a sandbox is worth. -/
noncomputable def Try.pinned : Pinned := { name := "qxb6627924a", sum := "55c535f62c39261a150569992bb1ea682e35680f5824df9c50985efe5e4aa0fc", checked := Try.checked }
namespace Rows
def none {H : Type} : Left H := { results := [], args := [] }

/-- 'zzlaws_mtp2_b1.FnSinceFindsAcknowledgedPosition': WHATEVER THE INPUT: true; the input reads as it did. -/
def fnSinceFindsAcknowledgedPositionSpec : ChangeSpec := { name := "fnSinceFindsAcknowledgedPosition", fn := fun _ => fun
  | [d1, d2, d3, d4, d5] => { results := [.lit (.bool true)], args := [d1, d2, d3, d4, d5] }
  | _ => none }
def fnSinceFindsAcknowledgedPositionRow : OpenClaim := { program := "qxb6627924a", sum := "55c535f62c39261a150569992bb1ea682e35680f5824df9c50985efe5e4aa0fc", func := "example.com/zeichenwerk/zeichenwerk/zzlaws_mtp2_b1.FnSinceFindsAcknowledgedPosition", spec := "fnSinceFindsAcknowledgedPosition", apart := false }
def FnSinceFindsAcknowledgedPositionSaid : Prop := fnSinceFindsAcknowledgedPositionRow.holds Try.pinned (OpenSpec.ofChange fnSinceFindsAcknowledgedPositionSpec)

/-- ITS FALSE NEIGHBOUR: 'it returns false'. Refute it at one input. -/
def fnSinceFindsAcknowledgedPositionWrong : ChangeSpec := { name := "fnSinceFindsAcknowledgedPosition", fn := fun _ => fun
  | [d1, d2, d3, d4, d5] => { results := [.lit (.bool false)], args := [d1, d2, d3, d4, d5] }
  | _ => none }
def FnSinceFindsAcknowledgedPositionWrongFalsely : Prop := fnSinceFindsAcknowledgedPositionRow.holds Try.pinned (OpenSpec.ofChange fnSinceFindsAcknowledgedPositionWrong)

/-- 'zzlaws_mtp2_b1.FnSinceAdvanceDropsHead': WHATEVER THE INPUT: true; the input reads as it did. -/
def fnSinceAdvanceDropsHeadSpec : ChangeSpec := { name := "fnSinceAdvanceDropsHead", fn := fun _ => fun
  | [d1, d2, d3, d4, d5] => { results := [.lit (.bool true)], args := [d1, d2, d3, d4, d5] }
  | _ => none }
def fnSinceAdvanceDropsHeadRow : OpenClaim := { program := "qxb6627924a", sum := "55c535f62c39261a150569992bb1ea682e35680f5824df9c50985efe5e4aa0fc", func := "example.com/zeichenwerk/zeichenwerk/zzlaws_mtp2_b1.FnSinceAdvanceDropsHead", spec := "fnSinceAdvanceDropsHead", apart := false }
def FnSinceAdvanceDropsHeadSaid : Prop := fnSinceAdvanceDropsHeadRow.holds Try.pinned (OpenSpec.ofChange fnSinceAdvanceDropsHeadSpec)

/-- ITS FALSE NEIGHBOUR: 'it returns false'. Refute it at one input. -/
def fnSinceAdvanceDropsHeadWrong : ChangeSpec := { name := "fnSinceAdvanceDropsHead", fn := fun _ => fun
  | [d1, d2, d3, d4, d5] => { results := [.lit (.bool false)], args := [d1, d2, d3, d4, d5] }
  | _ => none }
def FnSinceAdvanceDropsHeadWrongFalsely : Prop := fnSinceAdvanceDropsHeadRow.holds Try.pinned (OpenSpec.ofChange fnSinceAdvanceDropsHeadWrong)

end Rows
end Go.Proofs.Qxb6627924a
