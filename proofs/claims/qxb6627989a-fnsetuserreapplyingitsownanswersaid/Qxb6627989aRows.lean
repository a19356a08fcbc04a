/-
  No cell of these rows narrows 'for every input' (looked for: loops, veiled, ifaces, maps, wideKeys, modest, calm, conditions, laid).
  DERIVED. THE GIVEN ROWS OF THIS SEAT. 2 by the template 'for every input the law returns true; each argument reads behind the call as it read before'; 0 by the template 'total and deterministic' (their statements: Qxb6627989aTotals.lean).
  GIVEN WITH THE SEED: the statements are not yours to turn. If you find one false, say at which input.
  Laid BY PROGRAM, IN A SANDBOX (cutbox-rows.mjs): the forced cells as the released guide's own fill.sh prints them over the translation 77d507b3a162d3cb… (all of the seat's roots in one cut). By AI agents, Wed Nov 11 2026. No macro, syntax, notation, axiom, sorry.
-/
import Derived.Test.Qxb6627989aChecked
import GoSem.Claim
import GoSem.ClaimJoined
import GoSem.ClaimMapViews
import Derived.JoinedTies
import Derived.KernelRfl
namespace Go.Proofs.Qxb6627989a
/- THE CELL 'sum', in the pinned program and in every row, IS THE sha256 OF THE DUMP (.gsa) THAT Qxb6627989aProg.lean LOADS. Nothing in Lean hashes anything: it is a label: what it is worth is what the hold of that sum in a sandbox is worth. -/
noncomputable def Try.pinned : Pinned := { name := "qxb6627989a", sum := "77d507b3a162d3cb1b63c2e81a2ae77eba162b4079aaa02ef9ccb3152d289a6f", checked := Try.checked }
namespace Rows
def none {H : Type} : Left H := { results := [], args := [] }

/-- 'zzlaws_internal_config_b1.FnSetUserAppendsOneGroupAfterGroups': WHATEVER THE INPUT: true; the input reads as it did. -/
def fnSetUserAppendsOneGroupAfterGroupsSpec : ChangeSpec := { name := "fnSetUserAppendsOneGroupAfterGroups", fn := fun _ => fun
  | [d1, d2, d3, d4, d5, d6, d7, d8, d9, d10, d11, d12] => { results := [.lit (.bool true)], args := [d1, d2, d3, d4, d5, d6, d7, d8, d9, d10, d11, d12] }
  | _ => none }
def fnSetUserAppendsOneGroupAfterGroupsRow : OpenClaim := { program := "qxb6627989a", sum := "77d507b3a162d3cb1b63c2e81a2ae77eba162b4079aaa02ef9ccb3152d289a6f", func := "example.com/fairweir/fairweir/zzlaws_internal_config_b1.FnSetUserAppendsOneGroupAfterGroups", spec := "fnSetUserAppendsOneGroupAfterGroups", apart := false }
def FnSetUserAppendsOneGroupAfterGroupsSaid : Prop := fnSetUserAppendsOneGroupAfterGroupsRow.holds Try.pinned (OpenSpec.ofChange fnSetUserAppendsOneGroupAfterGroupsSpec)

/-- ITS FALSE NEIGHBOUR: 'it returns false'. Refute it at one input. -/
def fnSetUserAppendsOneGroupAfterGroupsWrong : ChangeSpec := { name := "fnSetUserAppendsOneGroupAfterGroups", fn := fun _ => fun
  | [d1, d2, d3, d4, d5, d6, d7, d8, d9, d10, d11, d12] => { results := [.lit (.bool false)], args := [d1, d2, d3, d4, d5, d6, d7, d8, d9, d10, d11, d12] }
  | _ => none }
def FnSetUserAppendsOneGroupAfterGroupsWrongFalsely : Prop := fnSetUserAppendsOneGroupAfterGroupsRow.holds Try.pinned (OpenSpec.ofChange fnSetUserAppendsOneGroupAfterGroupsWrong)

/-- 'zzlaws_internal_config_b1.FnSetUserReapplyingItsOwnAnswer': WHATEVER THE INPUT: true; the input reads as it did. -/
def fnSetUserReapplyingItsOwnAnswerSpec : ChangeSpec := { name := "fnSetUserReapplyingItsOwnAnswer", fn := fun _ => fun
  | [d1, d2, d3, d4, d5, d6, d7, d8, d9, d10, d11, d12] => { results := [.lit (.bool true)], args := [d1, d2, d3, d4, d5, d6, d7, d8, d9, d10, d11, d12] }
  | _ => none }
def fnSetUserReapplyingItsOwnAnswerRow : OpenClaim := { program := "qxb6627989a", sum := "77d507b3a162d3cb1b63c2e81a2ae77eba162b4079aaa02ef9ccb3152d289a6f", func := "example.com/fairweir/fairweir/zzlaws_internal_config_b1.FnSetUserReapplyingItsOwnAnswer", spec := "fnSetUserReapplyingItsOwnAnswer", apart := false }
def FnSetUserReapplyingItsOwnAnswerSaid : Prop := fnSetUserReapplyingItsOwnAnswerRow.holds Try.pinned (OpenSpec.ofChange fnSetUserReapplyingItsOwnAnswerSpec)

/-- ITS FALSE NEIGHBOUR: 'it returns false'. Refute it at one input. -/
def fnSetUserReapplyingItsOwnAnswerWrong : ChangeSpec := { name := "fnSetUserReapplyingItsOwnAnswer", fn := fun _ => fun
  | [d1, d2, d3, d4, d5, d6, d7, d8, d9, d10, d11, d12] => { results := [.lit (.bool false)], args := [d1, d2, d3, d4, d5, d6, d7, d8, d9, d10, d11, d12] }
  | _ => none }
def FnSetUserReapplyingItsOwnAnswerWrongFalsely : Prop := fnSetUserReapplyingItsOwnAnswerRow.holds Try.pinned (OpenSpec.ofChange fnSetUserReapplyingItsOwnAnswerWrong)

end Rows
end Go.Proofs.Qxb6627989a
