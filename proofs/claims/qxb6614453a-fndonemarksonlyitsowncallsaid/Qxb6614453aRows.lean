/-
  No cell of these rows narrows 'for every input' (looked for: loops, veiled, ifaces, maps, wideKeys, modest, calm, conditions, laid).
  DERIVED. THE GIVEN ROWS OF THIS SEAT. 1 by the template 'for every input the law returns true; each argument reads behind the call as it read before'; 0 by the template 'total and deterministic' (their statements: Qxb6614453aTotals.lean).
  GIVEN WITH THE SEED: the statements are not yours to turn. If you find one false, say at which input.
  Laid BY PROGRAM, IN A SANDBOX (cutbox-rows.mjs): the forced cells as the released guide's own fill.sh prints them over the translation 6ca69bf244499319… (all of the seat's roots in one cut). By AI agents, Wed Nov 11 2026. No macro, syntax, notation, axiom, sorry.
-/
import Derived.Test.Qxb6614453aChecked
import GoSem.Claim
import GoSem.ClaimJoined
import GoSem.ClaimMapViews
import Derived.JoinedTies
import Derived.KernelRfl
namespace Go.Proofs.Qxb6614453a
/- THE CELL 'sum', in the pinned program and in every row, IS THE sha256 OF THE DUMP (.gsa) THAT Qxb6614453aProg.lean LOADS. Nothing in Lean hashes anything: it is a label: what it is worth is what the hold of that sum in a sandbox is worth. -/
noncomputable def Try.pinned : Pinned := { name := "qxb6614453a", sum := "6ca69bf24449931964586d7063a5ed35bb67854872d2e98476007dbce255e7f4", checked := Try.checked }
namespace Rows
def none {H : Type} : Left H := { results := [], args := [] }

/-- 'zzlaws_internal_script_b1.FnDoneMarksOnlyItsOwnCall': WHATEVER THE INPUT: true; the input reads as it did. -/
def fnDoneMarksOnlyItsOwnCallSpec : ChangeSpec := { name := "fnDoneMarksOnlyItsOwnCall", fn := fun _ => fun
  | [] => { results := [.lit (.bool true)], args := [] }
  | _ => none }
def fnDoneMarksOnlyItsOwnCallRow : OpenClaim := { program := "qxb6614453a", sum := "6ca69bf24449931964586d7063a5ed35bb67854872d2e98476007dbce255e7f4", func := "example.com/dictlatch/dictlatch/zzlaws_internal_script_b1.FnDoneMarksOnlyItsOwnCall", spec := "fnDoneMarksOnlyItsOwnCall", inPlace := ["sync.NewCond", "(*internal/sync.Mutex).Lock", "internal/race.Disable", "sync/atomic.CompareAndSwapInt32", "internal/race.Enable", "internal/race.Acquire", "(*internal/sync.Mutex).lockSlow", "internal/sync.runtime_canSpin", "internal/sync.runtime_doSpin", "internal/sync.throw", "internal/sync.runtime_nanotime", "internal/sync.runtime_SemacquireMutex", "sync/atomic.AddInt32", "(*internal/sync.Mutex).Unlock", "internal/race.ReleaseMerge", "(*internal/sync.Mutex).unlockSlow", "internal/sync.fatal", "internal/sync.runtime_Semrelease", "(*sync.Cond).Broadcast", "(*sync.copyChecker).check", "sync.runtime_notifyListNotifyAll", "sync/atomic.LoadUint32", "sync/atomic.StoreUint32"], unfollowed := true, recurses := true, plainKeys := false, apart := false }
def FnDoneMarksOnlyItsOwnCallSaid : Prop := fnDoneMarksOnlyItsOwnCallRow.holds Try.pinned (OpenSpec.ofChange fnDoneMarksOnlyItsOwnCallSpec)

/-- ITS FALSE NEIGHBOUR: 'it returns false'. Refute it at one input. -/
def fnDoneMarksOnlyItsOwnCallWrong : ChangeSpec := { name := "fnDoneMarksOnlyItsOwnCall", fn := fun _ => fun
  | [] => { results := [.lit (.bool false)], args := [] }
  | _ => none }
def FnDoneMarksOnlyItsOwnCallWrongFalsely : Prop := fnDoneMarksOnlyItsOwnCallRow.holds Try.pinned (OpenSpec.ofChange fnDoneMarksOnlyItsOwnCallWrong)

end Rows
end Go.Proofs.Qxb6614453a
