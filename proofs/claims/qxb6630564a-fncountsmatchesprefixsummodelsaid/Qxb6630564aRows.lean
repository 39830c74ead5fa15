/-
  No cell of these rows narrows 'for every input' (looked for: loops, veiled, ifaces, maps, wideKeys, modest, calm, conditions, laid).
  DERIVED. THE GIVEN ROWS OF THIS SEAT. 2 by the template 'for every input the law returns true; each argument reads behind the call as it read before'; 0 by the template 'total and deterministic' (their statements: Qxb6630564aTotals.lean).
  GIVEN WITH THE SEED: the statements are not yours to turn. If you find one false, say at which input.
  Laid BY PROGRAM, IN A SANDBOX (cutbox-rows.mjs): the forced cells as the released guide's own fill.sh prints them over the translation 87bfd0e3d36e9f58… (all of the seat's roots in one cut). By AI agents, Wed Nov 11 2026. No macro, syntax, notation, axiom, sorry.
-/
import Derived.Test.Qxb6630564aChecked
import GoSem.Claim
import GoSem.ClaimJoined
import GoSem.ClaimMapViews
import Derived.JoinedTies
import Derived.KernelRfl
namespace Go.Proofs.Qxb6630564a
/- THE CELL 'sum', in the pinned program and in every row, IS THE sha256 OF THE DUMP (.gsa) THAT Qxb6630564aProg.lean LOADS. Nothing in Lean hashes anything: it is a label: what it is worth is what the hold of that sum in a sandbox is worth. -/
noncomputable def Try.pinned : Pinned := { name := "qxb6630564a", sum := "87bfd0e3d36e9f58ac70f790c1c02af152c3b9b640027e79ee3c05e0e4e07794", checked := Try.checked }
namespace Rows
def none {H : Type} : Left H := { results := [], args := [] }

/-- 'zzlaws_pkg_simpeer_b1.FnCountsMatchesPrefixSumModel': WHATEVER THE INPUT: true; the input reads as it did. -/
def fnCountsMatchesPrefixSumModelSpec : ChangeSpec := { name := "fnCountsMatchesPrefixSumModel", fn := fun _ => fun
  | [d1, d2, d3, d4, d5, d6] => { results := [.lit (.bool true)], args := [d1, d2, d3, d4, d5, d6] }
  | _ => none }
def fnCountsMatchesPrefixSumModelRow : OpenClaim := { program := "qxb6630564a", sum := "87bfd0e3d36e9f58ac70f790c1c02af152c3b9b640027e79ee3c05e0e4e07794", func := "example.com/sentrywire/sentrywire/zzlaws_pkg_simpeer_b1.FnCountsMatchesPrefixSumModel", spec := "fnCountsMatchesPrefixSumModel", inPlace := ["(*internal/sync.Mutex).Lock", "internal/race.Disable", "sync/atomic.CompareAndSwapInt32", "internal/race.Enable", "internal/race.Acquire", "(*internal/sync.Mutex).lockSlow", "internal/sync.runtime_canSpin", "internal/sync.runtime_doSpin", "internal/sync.throw", "internal/sync.runtime_nanotime", "internal/sync.runtime_SemacquireMutex", "sync/atomic.AddInt32", "(*internal/sync.Mutex).Unlock", "internal/race.ReleaseMerge", "(*internal/sync.Mutex).unlockSlow", "internal/sync.fatal", "internal/sync.runtime_Semrelease"], apart := false }
def FnCountsMatchesPrefixSumModelSaid : Prop := fnCountsMatchesPrefixSumModelRow.holds Try.pinned (OpenSpec.ofChange fnCountsMatchesPrefixSumModelSpec)

/-- ITS FALSE NEIGHBOUR: 'it returns false'. Refute it at one input. -/
def fnCountsMatchesPrefixSumModelWrong : ChangeSpec := { name := "fnCountsMatchesPrefixSumModel", fn := fun _ => fun
  | [d1, d2, d3, d4, d5, d6] => { results := [.lit (.bool false)], args := [d1, d2, d3, d4, d5, d6] }
  | _ => none }
def FnCountsMatchesPrefixSumModelWrongFalsely : Prop := fnCountsMatchesPrefixSumModelRow.holds Try.pinned (OpenSpec.ofChange fnCountsMatchesPrefixSumModelWrong)

/-- 'zzlaws_pkg_simpeer_b1.FnCountsOneMoreDrain': WHATEVER THE INPUT: true; the input reads as it did. -/
def fnCountsOneMoreDrainSpec : ChangeSpec := { name := "fnCountsOneMoreDrain", fn := fun _ => fun
  | [d1, d2, d3, d4, d5, d6, d7] => { results := [.lit (.bool true)], args := [d1, d2, d3, d4, d5, d6, d7] }
  | _ => none }
def fnCountsOneMoreDrainRow : OpenClaim := { program := "qxb6630564a", sum := "87bfd0e3d36e9f58ac70f790c1c02af152c3b9b640027e79ee3c05e0e4e07794", func := "example.com/sentrywire/sentrywire/zzlaws_pkg_simpeer_b1.FnCountsOneMoreDrain", spec := "fnCountsOneMoreDrain", inPlace := ["(*internal/sync.Mutex).Lock", "internal/race.Disable", "sync/atomic.CompareAndSwapInt32", "internal/race.Enable", "internal/race.Acquire", "(*internal/sync.Mutex).lockSlow", "internal/sync.runtime_canSpin", "internal/sync.runtime_doSpin", "internal/sync.throw", "internal/sync.runtime_nanotime", "internal/sync.runtime_SemacquireMutex", "sync/atomic.AddInt32", "(*internal/sync.Mutex).Unlock", "internal/race.ReleaseMerge", "(*internal/sync.Mutex).unlockSlow", "internal/sync.fatal", "internal/sync.runtime_Semrelease"], apart := false }
def FnCountsOneMoreDrainSaid : Prop := fnCountsOneMoreDrainRow.holds Try.pinned (OpenSpec.ofChange fnCountsOneMoreDrainSpec)

/-- ITS FALSE NEIGHBOUR: 'it returns false'. Refute it at one input. -/
def fnCountsOneMoreDrainWrong : ChangeSpec := { name := "fnCountsOneMoreDrain", fn := fun _ => fun
  | [d1, d2, d3, d4, d5, d6, d7] => { results := [.lit (.bool false)], args := [d1, d2, d3, d4, d5, d6, d7] }
  | _ => none }
def FnCountsOneMoreDrainWrongFalsely : Prop := fnCountsOneMoreDrainRow.holds Try.pinned (OpenSpec.ofChange fnCountsOneMoreDrainWrong)

end Rows
end Go.Proofs.Qxb6630564a
