/-
  No cell of these rows narrows 'for every input' (looked for: loops, veiled, ifaces, maps, wideKeys, modest, calm, conditions, laid).
  DERIVED. THE GIVEN ROWS OF THIS SEAT. 1 by the template 'for every input the law returns true; each argument reads behind the call as it read before'; 0 by the template 'total and deterministic' (their statements: Qxb6616784aTotals.lean).
  GIVEN WITH THE SEED: the statements are not yours to turn. If you find one false, say at which input.
  Laid BY PROGRAM, IN A SANDBOX (cutbox-rows.mjs): the forced cells as the released guide's own fill.sh prints them over the translation b6956ae28a41a30b… (all of the seat's roots in one cut). By AI agents, Wed Nov 11 2026. No macro, syntax, notation, axiom, sorry.
-/
import Derived.Test.Qxb6616784aChecked
import GoSem.Claim
import GoSem.ClaimJoined
import GoSem.ClaimMapViews
import Derived.JoinedTies
import Derived.KernelRfl
namespace Go.Proofs.Qxb6616784a
/- THE CELL 'sum', in the pinned program and in every row, IS THE sha256 OF THE DUMP (.gsa) THAT Qxb6616784aProg.lean LOADS. Nothing in Lean hashes anything: it is a label: what it is worth is what the hold of that sum in a sandbox is worth. -/
noncomputable def Try.pinned : Pinned := { name := "qxb6616784a", sum := "b6956ae28a41a30b971781ce960acd997f5a5bd65b6e671d7fe1461c6066268a", checked := Try.checked }
namespace Rows
def none {H : Type} : Left H := { results := [], args := [] }

/-- 'zzlaws_root_b1.FnStartedIsASnapshot': WHATEVER THE INPUT: true; the input reads as it did. -/
def fnStartedIsASnapshotSpec : ChangeSpec := { name := "fnStartedIsASnapshot", fn := fun _ => fun
  | [d] => { results := [.lit (.bool true)], args := [d] }
  | _ => none }
def fnStartedIsASnapshotRow : OpenClaim := { program := "qxb6616784a", sum := "b6956ae28a41a30b971781ce960acd997f5a5bd65b6e671d7fe1461c6066268a", func := "example.com/tidewatch/tidewatch/zzlaws_root_b1.FnStartedIsASnapshot", spec := "fnStartedIsASnapshot", inPlace := ["(*internal/sync.Mutex).Lock", "internal/race.Disable", "sync/atomic.CompareAndSwapInt32", "internal/race.Enable", "internal/race.Acquire", "(*internal/sync.Mutex).lockSlow", "internal/sync.runtime_canSpin", "internal/sync.runtime_doSpin", "internal/sync.throw", "internal/sync.runtime_nanotime", "internal/sync.runtime_SemacquireMutex", "sync/atomic.AddInt32", "(*internal/sync.Mutex).Unlock", "internal/race.ReleaseMerge", "(*internal/sync.Mutex).unlockSlow", "internal/sync.fatal", "internal/sync.runtime_Semrelease"], apart := false }
def FnStartedIsASnapshotSaid : Prop := fnStartedIsASnapshotRow.holds Try.pinned (OpenSpec.ofChange fnStartedIsASnapshotSpec)

/-- ITS FALSE NEIGHBOUR: 'it returns false'. Refute it at one input. -/
def fnStartedIsASnapshotWrong : ChangeSpec := { name := "fnStartedIsASnapshot", fn := fun _ => fun
  | [d] => { results := [.lit (.bool false)], args := [d] }
  | _ => none }
def FnStartedIsASnapshotWrongFalsely : Prop := fnStartedIsASnapshotRow.holds Try.pinned (OpenSpec.ofChange fnStartedIsASnapshotWrong)

end Rows
end Go.Proofs.Qxb6616784a
