/-
  No cell of these rows narrows 'for every input' (looked for: loops, veiled, ifaces, maps, wideKeys, modest, calm, conditions, laid).
  DERIVED. THE GIVEN ROWS OF THIS SEAT. 2 by the template 'for every input the law returns true; each argument reads behind the call as it read before'; 0 by the template 'total and deterministic' (their statements: Qxb6627959aTotals.lean).
  GIVEN WITH THE SEED: the statements are not yours to turn. If you find one false, say at which input.
  Laid BY PROGRAM, IN A SANDBOX (cutbox-rows.mjs): the forced cells as the released guide's own fill.sh prints them over the translation c518db610410128a… (all of the seat's roots in one cut). By AI agents, Wed Nov 11 2026. No macro, syntax, notation, axiom, sorry.
-/
import Derived.Test.Qxb6627959aChecked
import GoSem.Claim
import GoSem.ClaimJoined
import GoSem.ClaimMapViews
import Derived.JoinedTies
import Derived.KernelRfl
namespace Go.Proofs.Qxb6627959a
/- THE CELL 'sum', in the pinned program and in every row, IS THE sha256 OF THE DUMP (.gsa) THAT Qxb6627959aProg.lean LOADS. Nothing in Lean hashes anything: it is a label: what it is worth is what the hold of that sum in a sandbox is worth. -/
noncomputable def Try.pinned : Pinned := { name := "qxb6627959a", sum := "c518db610410128ac970b8cf7c999f530da1586c6139d2b3b4b0aad1cb758868", checked := Try.checked }
namespace Rows
def none {H : Type} : Left H := { results := [], args := [] }

/-- 'zzlaws_xmldoc_b1.FnIsSchemeIsByteWise': WHATEVER THE INPUT: true; the input reads as it did. -/
def fnIsSchemeIsByteWiseSpec : ChangeSpec := { name := "fnIsSchemeIsByteWise", fn := fun _ => fun
  | [d] => { results := [.lit (.bool true)], args := [d] }
  | _ => none }
def fnIsSchemeIsByteWiseRow : OpenClaim := { program := "qxb6627959a", sum := "c518db610410128ac970b8cf7c999f530da1586c6139d2b3b4b0aad1cb758868", func := "example.com/rule3/rule3/zzlaws_xmldoc_b1.FnIsSchemeIsByteWise", spec := "fnIsSchemeIsByteWise", apart := false }
def FnIsSchemeIsByteWiseSaid : Prop := fnIsSchemeIsByteWiseRow.holds Try.pinned (OpenSpec.ofChange fnIsSchemeIsByteWiseSpec)

/-- ITS FALSE NEIGHBOUR: 'it returns false'. Refute it at one input. -/
def fnIsSchemeIsByteWiseWrong : ChangeSpec := { name := "fnIsSchemeIsByteWise", fn := fun _ => fun
  | [d] => { results := [.lit (.bool false)], args := [d] }
  | _ => none }
def FnIsSchemeIsByteWiseWrongFalsely : Prop := fnIsSchemeIsByteWiseRow.holds Try.pinned (OpenSpec.ofChange fnIsSchemeIsByteWiseWrong)

/-- 'zzlaws_xmldoc_b1.FnIsSchemeJoinAtAnyCut': WHATEVER THE INPUT: true; the input reads as it did. -/
def fnIsSchemeJoinAtAnyCutSpec : ChangeSpec := { name := "fnIsSchemeJoinAtAnyCut", fn := fun _ => fun
  | [d1, d2] => { results := [.lit (.bool true)], args := [d1, d2] }
  | _ => none }
def fnIsSchemeJoinAtAnyCutRow : OpenClaim := { program := "qxb6627959a", sum := "c518db610410128ac970b8cf7c999f530da1586c6139d2b3b4b0aad1cb758868", func := "example.com/rule3/rule3/zzlaws_xmldoc_b1.FnIsSchemeJoinAtAnyCut", spec := "fnIsSchemeJoinAtAnyCut", apart := false }
def FnIsSchemeJoinAtAnyCutSaid : Prop := fnIsSchemeJoinAtAnyCutRow.holds Try.pinned (OpenSpec.ofChange fnIsSchemeJoinAtAnyCutSpec)

/-- ITS FALSE NEIGHBOUR: 'it returns false'. Refute it at one input. -/
def fnIsSchemeJoinAtAnyCutWrong : ChangeSpec := { name := "fnIsSchemeJoinAtAnyCut", fn := fun _ => fun
  | [d1, d2] => { results := [.lit (.bool false)], args := [d1, d2] }
  | _ => none }
def FnIsSchemeJoinAtAnyCutWrongFalsely : Prop := fnIsSchemeJoinAtAnyCutRow.holds Try.pinned (OpenSpec.ofChange fnIsSchemeJoinAtAnyCutWrong)

end Rows
end Go.Proofs.Qxb6627959a
