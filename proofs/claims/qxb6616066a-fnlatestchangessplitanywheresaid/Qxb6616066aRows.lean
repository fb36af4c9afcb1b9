/-
  No cell of these rows narrows 'for every input' (looked for: loops, veiled, ifaces, maps, wideKeys, modest, calm, conditions, laid).
  DERIVED. THE GIVEN ROWS OF THIS SEAT. 2 by the template 'for every input the law returns true; each argument reads behind the call as it read before'; 0 by the template 'total and deterministic' (their statements: Qxb6616066aTotals.lean).
  GIVEN WITH THE SEED: the statements are not yours to turn. If you find one false, say at which input.
  Laid BY PROGRAM, IN A SANDBOX (cutbox-rows.mjs): the forced cells as the released guide's own fill.sh prints them over the translation 3f87e32e5dff5ae7… (all of the seat's roots in one cut). By AI agents, Wed Nov 11 2026. No macro, syntax, notation, axiom, sorry.
-/
import Derived.Test.Qxb6616066aChecked
import GoSem.Claim
import GoSem.ClaimJoined
import GoSem.ClaimMapViews
import Derived.JoinedTies
import Derived.KernelRfl
namespace Go.Proofs.Qxb6616066a
/- THE CELL 'sum', in the pinned program and in every row, IS THE sha256 OF THE DUMP (.gsa) THAT Qxb6616066aProg.lean LOADS. Nothing in Lean hashes anything: it is a label: what it is worth is what the hold of that sum in a sandbox is worth. -/
noncomputable def Try.pinned : Pinned := { name := "qxb6616066a", sum := "3f87e32e5dff5ae7207874b70a65954c6dd8d2c200e0a7c3bf9a04ded28cbc0f", checked := Try.checked }
namespace Rows
def none {H : Type} : Left H := { results := [], args := [] }

/-- 'zzlaws_internal_follow_b1.FnLatestChangesMatchesModel': WHATEVER THE INPUT: true; the input reads as it did. -/
def fnLatestChangesMatchesModelSpec : ChangeSpec := { name := "fnLatestChangesMatchesModel", fn := fun _ => fun
  | [d1, d2, d3] => { results := [.lit (.bool true)], args := [d1, d2, d3] }
  | _ => none }
def fnLatestChangesMatchesModelRow : OpenClaim := { program := "qxb6616066a", sum := "3f87e32e5dff5ae7207874b70a65954c6dd8d2c200e0a7c3bf9a04ded28cbc0f", func := "example.com/demesne/demesne/zzlaws_internal_follow_b1.FnLatestChangesMatchesModel", spec := "fnLatestChangesMatchesModel", apart := false }
def FnLatestChangesMatchesModelSaid : Prop := fnLatestChangesMatchesModelRow.holds Try.pinned (OpenSpec.ofChange fnLatestChangesMatchesModelSpec)

/-- ITS FALSE NEIGHBOUR: 'it returns false'. Refute it at one input. -/
def fnLatestChangesMatchesModelWrong : ChangeSpec := { name := "fnLatestChangesMatchesModel", fn := fun _ => fun
  | [d1, d2, d3] => { results := [.lit (.bool false)], args := [d1, d2, d3] }
  | _ => none }
def FnLatestChangesMatchesModelWrongFalsely : Prop := fnLatestChangesMatchesModelRow.holds Try.pinned (OpenSpec.ofChange fnLatestChangesMatchesModelWrong)

/-- 'zzlaws_internal_follow_b1.FnLatestChangesSplitAnywhere': WHATEVER THE INPUT: true; the input reads as it did. -/
def fnLatestChangesSplitAnywhereSpec : ChangeSpec := { name := "fnLatestChangesSplitAnywhere", fn := fun _ => fun
  | [d1, d2, d3, d4] => { results := [.lit (.bool true)], args := [d1, d2, d3, d4] }
  | _ => none }
def fnLatestChangesSplitAnywhereRow : OpenClaim := { program := "qxb6616066a", sum := "3f87e32e5dff5ae7207874b70a65954c6dd8d2c200e0a7c3bf9a04ded28cbc0f", func := "example.com/demesne/demesne/zzlaws_internal_follow_b1.FnLatestChangesSplitAnywhere", spec := "fnLatestChangesSplitAnywhere", apart := false }
def FnLatestChangesSplitAnywhereSaid : Prop := fnLatestChangesSplitAnywhereRow.holds Try.pinned (OpenSpec.ofChange fnLatestChangesSplitAnywhereSpec)

/-- ITS FALSE NEIGHBOUR: 'it returns false'. Refute it at one input. -/
def fnLatestChangesSplitAnywhereWrong : ChangeSpec := { name := "fnLatestChangesSplitAnywhere", fn := fun _ => fun
  | [d1, d2, d3, d4] => { results := [.lit (.bool false)], args := [d1, d2, d3, d4] }
  | _ => none }
def FnLatestChangesSplitAnywhereWrongFalsely : Prop := fnLatestChangesSplitAnywhereRow.holds Try.pinned (OpenSpec.ofChange fnLatestChangesSplitAnywhereWrong)

end Rows
end Go.Proofs.Qxb6616066a
