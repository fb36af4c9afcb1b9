/-
  No cell of these rows narrows 'for every input' (looked for: loops, veiled, ifaces, maps, wideKeys, modest, calm, conditions, laid).
  DERIVED. THE GIVEN ROWS OF THIS SEAT. 4 by the template 'for every input the law returns true; each argument reads behind the call as it read before'; 0 by the template 'total and deterministic' (their statements: Qxb6614484aTotals.lean).
  GIVEN WITH THE SEED: the statements are not yours to turn. If you find one false, say at which input.
  Laid BY PROGRAM, IN A SANDBOX (cutbox-rows.mjs): the forced cells as the released guide's own fill.sh prints them over the translation 90e98f94413bd63c… (all of the seat's roots in one cut). By AI agents, Wed Nov 11 2026. No macro, syntax, notation, axiom, sorry.
-/
import Derived.Test.Qxb6614484aChecked
import GoSem.Claim
import GoSem.ClaimJoined
import GoSem.ClaimMapViews
import Derived.JoinedTies
import Derived.KernelRfl
namespace Go.Proofs.Qxb6614484a
/- THE CELL 'sum', in the pinned program and in every row, IS THE sha256 OF THE DUMP (.gsa) THAT Qxb6614484aProg.lean LOADS. Nothing in Lean hashes anything: it is a label: what it is worth is what the hold of that sum in a sandbox is worth. -/
noncomputable def Try.pinned : Pinned := { name := "qxb6614484a", sum := "90e98f94413bd63cde9609e99ee24ad36bdda98a43ae61bd0c2669bbc621dae3", checked := Try.checked }
namespace Rows
def none {H : Type} : Left H := { results := [], args := [] }

/-- 'zzlaws_walk_b1.FnClosureLeastClosedSuperset': WHATEVER THE INPUT: true; the input reads as it did. -/
def fnClosureLeastClosedSupersetSpec : ChangeSpec := { name := "fnClosureLeastClosedSuperset", fn := fun _ => fun
  | [d1, d2, d3, d4] => { results := [.lit (.bool true)], args := [d1, d2, d3, d4] }
  | _ => none }
def fnClosureLeastClosedSupersetRow : OpenClaim := { program := "qxb6614484a", sum := "90e98f94413bd63cde9609e99ee24ad36bdda98a43ae61bd0c2669bbc621dae3", func := "example.com/edgewalk/edgewalk/zzlaws_walk_b1.FnClosureLeastClosedSuperset", spec := "fnClosureLeastClosedSuperset", unfollowed := true, recurses := true, apart := false }
def FnClosureLeastClosedSupersetSaid : Prop := fnClosureLeastClosedSupersetRow.holds Try.pinned (OpenSpec.ofChange fnClosureLeastClosedSupersetSpec)

/-- ITS FALSE NEIGHBOUR: 'it returns false'. Refute it at one input. -/
def fnClosureLeastClosedSupersetWrong : ChangeSpec := { name := "fnClosureLeastClosedSuperset", fn := fun _ => fun
  | [d1, d2, d3, d4] => { results := [.lit (.bool false)], args := [d1, d2, d3, d4] }
  | _ => none }
def FnClosureLeastClosedSupersetWrongFalsely : Prop := fnClosureLeastClosedSupersetRow.holds Try.pinned (OpenSpec.ofChange fnClosureLeastClosedSupersetWrong)

/-- 'zzlaws_walk_b1.FnClosureUnionAtAnyCut': WHATEVER THE INPUT: true; the input reads as it did. -/
def fnClosureUnionAtAnyCutSpec : ChangeSpec := { name := "fnClosureUnionAtAnyCut", fn := fun _ => fun
  | [d1, d2, d3, d4] => { results := [.lit (.bool true)], args := [d1, d2, d3, d4] }
  | _ => none }
def fnClosureUnionAtAnyCutRow : OpenClaim := { program := "qxb6614484a", sum := "90e98f94413bd63cde9609e99ee24ad36bdda98a43ae61bd0c2669bbc621dae3", func := "example.com/edgewalk/edgewalk/zzlaws_walk_b1.FnClosureUnionAtAnyCut", spec := "fnClosureUnionAtAnyCut", unfollowed := true, recurses := true, apart := false }
def FnClosureUnionAtAnyCutSaid : Prop := fnClosureUnionAtAnyCutRow.holds Try.pinned (OpenSpec.ofChange fnClosureUnionAtAnyCutSpec)

/-- ITS FALSE NEIGHBOUR: 'it returns false'. Refute it at one input. -/
def fnClosureUnionAtAnyCutWrong : ChangeSpec := { name := "fnClosureUnionAtAnyCut", fn := fun _ => fun
  | [d1, d2, d3, d4] => { results := [.lit (.bool false)], args := [d1, d2, d3, d4] }
  | _ => none }
def FnClosureUnionAtAnyCutWrongFalsely : Prop := fnClosureUnionAtAnyCutRow.holds Try.pinned (OpenSpec.ofChange fnClosureUnionAtAnyCutWrong)

/-- 'zzlaws_walk_b1.FnEndingsAgreeWithForwardClosure': WHATEVER THE INPUT: true; the input reads as it did. -/
def fnEndingsAgreeWithForwardClosureSpec : ChangeSpec := { name := "fnEndingsAgreeWithForwardClosure", fn := fun _ => fun
  | [d1, d2, d3, d4] => { results := [.lit (.bool true)], args := [d1, d2, d3, d4] }
  | _ => none }
def fnEndingsAgreeWithForwardClosureRow : OpenClaim := { program := "qxb6614484a", sum := "90e98f94413bd63cde9609e99ee24ad36bdda98a43ae61bd0c2669bbc621dae3", func := "example.com/edgewalk/edgewalk/zzlaws_walk_b1.FnEndingsAgreeWithForwardClosure", spec := "fnEndingsAgreeWithForwardClosure", unfollowed := true, recurses := true, apart := false }
def FnEndingsAgreeWithForwardClosureSaid : Prop := fnEndingsAgreeWithForwardClosureRow.holds Try.pinned (OpenSpec.ofChange fnEndingsAgreeWithForwardClosureSpec)

/-- ITS FALSE NEIGHBOUR: 'it returns false'. Refute it at one input. -/
def fnEndingsAgreeWithForwardClosureWrong : ChangeSpec := { name := "fnEndingsAgreeWithForwardClosure", fn := fun _ => fun
  | [d1, d2, d3, d4] => { results := [.lit (.bool false)], args := [d1, d2, d3, d4] }
  | _ => none }
def FnEndingsAgreeWithForwardClosureWrongFalsely : Prop := fnEndingsAgreeWithForwardClosureRow.holds Try.pinned (OpenSpec.ofChange fnEndingsAgreeWithForwardClosureWrong)

/-- 'zzlaws_walk_b1.FnEndingsOneMoreLink': WHATEVER THE INPUT: true; the input reads as it did. -/
def fnEndingsOneMoreLinkSpec : ChangeSpec := { name := "fnEndingsOneMoreLink", fn := fun _ => fun
  | [d1, d2, d3, d4, d5] => { results := [.lit (.bool true)], args := [d1, d2, d3, d4, d5] }
  | _ => none }
def fnEndingsOneMoreLinkRow : OpenClaim := { program := "qxb6614484a", sum := "90e98f94413bd63cde9609e99ee24ad36bdda98a43ae61bd0c2669bbc621dae3", func := "example.com/edgewalk/edgewalk/zzlaws_walk_b1.FnEndingsOneMoreLink", spec := "fnEndingsOneMoreLink", unfollowed := true, recurses := true, apart := false }
def FnEndingsOneMoreLinkSaid : Prop := fnEndingsOneMoreLinkRow.holds Try.pinned (OpenSpec.ofChange fnEndingsOneMoreLinkSpec)

/-- ITS FALSE NEIGHBOUR: 'it returns false'. Refute it at one input. -/
def fnEndingsOneMoreLinkWrong : ChangeSpec := { name := "fnEndingsOneMoreLink", fn := fun _ => fun
  | [d1, d2, d3, d4, d5] => { results := [.lit (.bool false)], args := [d1, d2, d3, d4, d5] }
  | _ => none }
def FnEndingsOneMoreLinkWrongFalsely : Prop := fnEndingsOneMoreLinkRow.holds Try.pinned (OpenSpec.ofChange fnEndingsOneMoreLinkWrong)

end Rows
end Go.Proofs.Qxb6614484a
