/-
  No cell of these rows narrows 'for every input' (looked for: loops, veiled, ifaces, maps, wideKeys, modest, calm, conditions, laid).
  DERIVED. THE GIVEN ROWS OF THIS SEAT. 2 by the template 'for every input the law returns true; each argument reads behind the call as it read before'; 0 by the template 'total and deterministic' (their statements: Qxb6634835aTotals.lean).
  GIVEN WITH THE SEED: the statements are not yours to turn. If you find one false, say at which input.
  Laid BY PROGRAM, IN A SANDBOX (cutbox-rows.mjs): the forced cells as the released guide's own fill.sh prints them over the translation ab856e402de0c217… (all of the seat's roots in one cut). By AI agents, Wed Nov 11 2026. No macro, syntax, notation, axiom, sorry.
-/
import Derived.Test.Qxb6634835aChecked
import GoSem.Claim
import GoSem.ClaimJoined
import GoSem.ClaimMapViews
import Derived.JoinedTies
import Derived.KernelRfl
namespace Go.Proofs.Qxb6634835a
/- THE CELL 'sum', in the pinned program and in every row, IS THE sha256 OF THE DUMP (.gsa) THAT Qxb6634835aProg.lean LOADS. Nothing in Lean hashes anything: it is a label: what it is worth is what the hold of that sum in a sandbox is worth. -/
noncomputable def Try.pinned : Pinned := { name := "qxb6634835a", sum := "ab856e402de0c2176ae25dbadeae78726479b8f8eeb0889819a0d9a8bfb190aa", checked := Try.checked }
namespace Rows
def none {H : Type} : Left H := { results := [], args := [] }

/-- 'zzlaws_internal_control_b1.FnGroupStateIsFirstMatch': WHATEVER THE INPUT: true; the input reads as it did. -/
def fnGroupStateIsFirstMatchSpec : ChangeSpec := { name := "fnGroupStateIsFirstMatch", fn := fun _ => fun
  | [d1, d2, d3, d4, d5, d6] => { results := [.lit (.bool true)], args := [d1, d2, d3, d4, d5, d6] }
  | _ => none }
def fnGroupStateIsFirstMatchRow : OpenClaim := { program := "qxb6634835a", sum := "ab856e402de0c2176ae25dbadeae78726479b8f8eeb0889819a0d9a8bfb190aa", func := "example.com/standfast/standfast/zzlaws_internal_control_b1.FnGroupStateIsFirstMatch", spec := "fnGroupStateIsFirstMatch", apart := false }
def FnGroupStateIsFirstMatchSaid : Prop := fnGroupStateIsFirstMatchRow.holds Try.pinned (OpenSpec.ofChange fnGroupStateIsFirstMatchSpec)

/-- ITS FALSE NEIGHBOUR: 'it returns false'. Refute it at one input. -/
def fnGroupStateIsFirstMatchWrong : ChangeSpec := { name := "fnGroupStateIsFirstMatch", fn := fun _ => fun
  | [d1, d2, d3, d4, d5, d6] => { results := [.lit (.bool false)], args := [d1, d2, d3, d4, d5, d6] }
  | _ => none }
def FnGroupStateIsFirstMatchWrongFalsely : Prop := fnGroupStateIsFirstMatchRow.holds Try.pinned (OpenSpec.ofChange fnGroupStateIsFirstMatchWrong)

/-- 'zzlaws_internal_control_b1.FnGroupStateInsertedPair': WHATEVER THE INPUT: true; the input reads as it did. -/
def fnGroupStateInsertedPairSpec : ChangeSpec := { name := "fnGroupStateInsertedPair", fn := fun _ => fun
  | [d1, d2, d3, d4, d5, d6, d7, d8] => { results := [.lit (.bool true)], args := [d1, d2, d3, d4, d5, d6, d7, d8] }
  | _ => none }
def fnGroupStateInsertedPairRow : OpenClaim := { program := "qxb6634835a", sum := "ab856e402de0c2176ae25dbadeae78726479b8f8eeb0889819a0d9a8bfb190aa", func := "example.com/standfast/standfast/zzlaws_internal_control_b1.FnGroupStateInsertedPair", spec := "fnGroupStateInsertedPair", apart := false }
def FnGroupStateInsertedPairSaid : Prop := fnGroupStateInsertedPairRow.holds Try.pinned (OpenSpec.ofChange fnGroupStateInsertedPairSpec)

/-- ITS FALSE NEIGHBOUR: 'it returns false'. Refute it at one input. -/
def fnGroupStateInsertedPairWrong : ChangeSpec := { name := "fnGroupStateInsertedPair", fn := fun _ => fun
  | [d1, d2, d3, d4, d5, d6, d7, d8] => { results := [.lit (.bool false)], args := [d1, d2, d3, d4, d5, d6, d7, d8] }
  | _ => none }
def FnGroupStateInsertedPairWrongFalsely : Prop := fnGroupStateInsertedPairRow.holds Try.pinned (OpenSpec.ofChange fnGroupStateInsertedPairWrong)

end Rows
end Go.Proofs.Qxb6634835a
