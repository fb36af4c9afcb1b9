/-
  No cell of these rows narrows 'for every input' (looked for: loops, veiled, ifaces, maps, wideKeys, modest, calm, conditions, laid).
  DERIVED. THE GIVEN ROWS OF THIS SEAT. 2 by the template 'for every input the law returns true; each argument reads behind the call as it read before'; 0 by the template 'total and deterministic' (their statements: Qxb6615927aTotals.lean).
  GIVEN WITH THE SEED: the statements are not yours to turn. If you find one false, say at which input.
  Laid BY PROGRAM, IN A SANDBOX (cutbox-rows.mjs): the forced cells as the released guide's own fill.sh prints them over the translation d5ec7e7185c8298a… (all of the seat's roots in one cut). By AI agents, Wed Nov 11 2026. No macro, syntax, notation, axiom, sorry.
-/
import Derived.Test.Qxb6615927aChecked
import GoSem.Claim
import GoSem.ClaimJoined
import GoSem.ClaimMapViews
import Derived.JoinedTies
import Derived.KernelRfl
namespace Go.Proofs.Qxb6615927a
/- THE CELL 'sum', in the pinned program and in every row, IS THE sha256 OF THE DUMP (.gsa) THAT Qxb6615927aProg.lean LOADS. Nothing in Lean hashes anything: it is a label: what it is worth is what the hold of that sum in a sandbox is worth. -/
noncomputable def Try.pinned : Pinned := { name := "qxb6615927a", sum := "d5ec7e7185c8298ac479497b7e1a2be8483f9c5c7b3fd092d73df81a91f78db3", checked := Try.checked }
namespace Rows
def none {H : Type} : Left H := { results := [], args := [] }

/-- 'zzlaws_root_b1.FnSearchErrorTextFramesMessage': WHATEVER THE INPUT: true; the input reads as it did. -/
def fnSearchErrorTextFramesMessageSpec : ChangeSpec := { name := "fnSearchErrorTextFramesMessage", fn := fun _ => fun
  | [d1, d2] => { results := [.lit (.bool true)], args := [d1, d2] }
  | _ => none }
def fnSearchErrorTextFramesMessageRow : OpenClaim := { program := "qxb6615927a", sum := "d5ec7e7185c8298ac479497b7e1a2be8483f9c5c7b3fd092d73df81a91f78db3", func := "example.com/hashwarden/hashwarden/zzlaws_root_b1.FnSearchErrorTextFramesMessage", spec := "fnSearchErrorTextFramesMessage", unfollowed := true, recurses := true, plainKeys := false, apart := false }
def FnSearchErrorTextFramesMessageSaid : Prop := fnSearchErrorTextFramesMessageRow.holds Try.pinned (OpenSpec.ofChange fnSearchErrorTextFramesMessageSpec)

/-- ITS FALSE NEIGHBOUR: 'it returns false'. Refute it at one input. -/
def fnSearchErrorTextFramesMessageWrong : ChangeSpec := { name := "fnSearchErrorTextFramesMessage", fn := fun _ => fun
  | [d1, d2] => { results := [.lit (.bool false)], args := [d1, d2] }
  | _ => none }
def FnSearchErrorTextFramesMessageWrongFalsely : Prop := fnSearchErrorTextFramesMessageRow.holds Try.pinned (OpenSpec.ofChange fnSearchErrorTextFramesMessageWrong)

/-- 'zzlaws_root_b1.FnCacheEndSweepBound': WHATEVER THE INPUT: true; the input reads as it did. -/
def fnCacheEndSweepBoundSpec : ChangeSpec := { name := "fnCacheEndSweepBound", fn := fun _ => fun
  | [d1, d2, d3, d4, d5, d6] => { results := [.lit (.bool true)], args := [d1, d2, d3, d4, d5, d6] }
  | _ => none }
def fnCacheEndSweepBoundRow : OpenClaim := { program := "qxb6615927a", sum := "d5ec7e7185c8298ac479497b7e1a2be8483f9c5c7b3fd092d73df81a91f78db3", func := "example.com/hashwarden/hashwarden/zzlaws_root_b1.FnCacheEndSweepBound", spec := "fnCacheEndSweepBound", inPlace := ["(*internal/sync.Mutex).Lock", "internal/race.Disable", "sync/atomic.CompareAndSwapInt32", "internal/race.Enable", "internal/race.Acquire", "(*internal/sync.Mutex).lockSlow", "internal/sync.runtime_canSpin", "internal/sync.runtime_doSpin", "internal/sync.throw", "internal/sync.runtime_nanotime", "internal/sync.runtime_SemacquireMutex", "sync/atomic.AddInt32", "(*internal/sync.Mutex).Unlock", "internal/race.ReleaseMerge", "(*internal/sync.Mutex).unlockSlow", "internal/sync.fatal", "internal/sync.runtime_Semrelease"], plainKeys := false, apart := false }
def FnCacheEndSweepBoundSaid : Prop := fnCacheEndSweepBoundRow.holds Try.pinned (OpenSpec.ofChange fnCacheEndSweepBoundSpec)

/-- ITS FALSE NEIGHBOUR: 'it returns false'. Refute it at one input. -/
def fnCacheEndSweepBoundWrong : ChangeSpec := { name := "fnCacheEndSweepBound", fn := fun _ => fun
  | [d1, d2, d3, d4, d5, d6] => { results := [.lit (.bool false)], args := [d1, d2, d3, d4, d5, d6] }
  | _ => none }
def FnCacheEndSweepBoundWrongFalsely : Prop := fnCacheEndSweepBoundRow.holds Try.pinned (OpenSpec.ofChange fnCacheEndSweepBoundWrong)

end Rows
end Go.Proofs.Qxb6615927a
