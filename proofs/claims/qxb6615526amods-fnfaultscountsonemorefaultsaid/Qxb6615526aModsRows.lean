/-
  No cell of these rows narrows 'for every input' (looked for: loops, veiled, ifaces, maps, wideKeys, modest, calm, conditions, laid).
  DERIVED. THE GIVEN ROWS OF THIS SEAT. 5 by the template 'for every input the law returns true; each argument reads behind the call as it read before'; 0 by the template 'total and deterministic' (their statements: Qxb6615526aModsTotals.lean).
  GIVEN WITH THE SEED: the statements are not yours to turn. If you find one false, say at which input.
  Laid BY PROGRAM, IN A SANDBOX (cutbox-rows.mjs): the forced cells as the released guide's own fill.sh prints them over the translation 01dad726a6b277d2… (all of the seat's roots in one cut). By AI agents, Wed Nov 11 2026. No macro, syntax, notation, axiom, sorry.
-/
import Derived.Test.Qxb6615526aModsChecked
import GoSem.Claim
import GoSem.ClaimJoined
import GoSem.ClaimMapViews
import Derived.JoinedTies
import Derived.KernelRfl
namespace Go.Proofs.Qxb6615526aMods
/- THE CELL 'sum', in the pinned program and in every row, IS THE sha256 OF THE DUMP (.gsa) THAT Qxb6615526aModsProg.lean LOADS. Nothing in Lean hashes anything: it is a label: what it is worth is what the hold of that sum in a sandbox is worth. -/
noncomputable def Trym.pinned : Pinned := { name := "qxb6615526amods", sum := "01dad726a6b277d2c21923314c591f910a5f996983ea0095da2a3f3d8720977d", checked := Trym.checked }
namespace Rows
def none {H : Type} : Left H := { results := [], args := [] }

/-- 'zzlaws_root_b1.FnQuorumIsLeastIntersectingAndAvailable': WHATEVER THE INPUT: true; the input reads as it did. -/
def fnQuorumIsLeastIntersectingAndAvailableSpec : ChangeSpec := { name := "fnQuorumIsLeastIntersectingAndAvailable", fn := fun _ => fun
  | [d1, d2] => { results := [.lit (.bool true)], args := [d1, d2] }
  | _ => none }
def fnQuorumIsLeastIntersectingAndAvailableRow : OpenClaim := { program := "qxb6615526amods", sum := "01dad726a6b277d2c21923314c591f910a5f996983ea0095da2a3f3d8720977d", func := "example.com/quorate/quorate/zzlaws_root_b1.FnQuorumIsLeastIntersectingAndAvailable", spec := "fnQuorumIsLeastIntersectingAndAvailable", make := .lifted ["publicsums"], apart := false }
def FnQuorumIsLeastIntersectingAndAvailableSaid : Prop := fnQuorumIsLeastIntersectingAndAvailableRow.holds Trym.pinned (OpenSpec.ofChange fnQuorumIsLeastIntersectingAndAvailableSpec)

/-- ITS FALSE NEIGHBOUR: 'it returns false'. Refute it at one input. -/
def fnQuorumIsLeastIntersectingAndAvailableWrong : ChangeSpec := { name := "fnQuorumIsLeastIntersectingAndAvailable", fn := fun _ => fun
  | [d1, d2] => { results := [.lit (.bool false)], args := [d1, d2] }
  | _ => none }
def FnQuorumIsLeastIntersectingAndAvailableWrongFalsely : Prop := fnQuorumIsLeastIntersectingAndAvailableRow.holds Trym.pinned (OpenSpec.ofChange fnQuorumIsLeastIntersectingAndAvailableWrong)

/-- 'zzlaws_root_b1.FnQuorumRisesEveryTwoReplicas': WHATEVER THE INPUT: true; the input reads as it did. -/
def fnQuorumRisesEveryTwoReplicasSpec : ChangeSpec := { name := "fnQuorumRisesEveryTwoReplicas", fn := fun _ => fun
  | [d1, d2] => { results := [.lit (.bool true)], args := [d1, d2] }
  | _ => none }
def fnQuorumRisesEveryTwoReplicasRow : OpenClaim := { program := "qxb6615526amods", sum := "01dad726a6b277d2c21923314c591f910a5f996983ea0095da2a3f3d8720977d", func := "example.com/quorate/quorate/zzlaws_root_b1.FnQuorumRisesEveryTwoReplicas", spec := "fnQuorumRisesEveryTwoReplicas", make := .lifted ["publicsums"], apart := false }
def FnQuorumRisesEveryTwoReplicasSaid : Prop := fnQuorumRisesEveryTwoReplicasRow.holds Trym.pinned (OpenSpec.ofChange fnQuorumRisesEveryTwoReplicasSpec)

/-- ITS FALSE NEIGHBOUR: 'it returns false'. Refute it at one input. -/
def fnQuorumRisesEveryTwoReplicasWrong : ChangeSpec := { name := "fnQuorumRisesEveryTwoReplicas", fn := fun _ => fun
  | [d1, d2] => { results := [.lit (.bool false)], args := [d1, d2] }
  | _ => none }
def FnQuorumRisesEveryTwoReplicasWrongFalsely : Prop := fnQuorumRisesEveryTwoReplicasRow.holds Trym.pinned (OpenSpec.ofChange fnQuorumRisesEveryTwoReplicasWrong)

/-- 'zzlaws_root_b1.FnFaultsCountsOneMoreFault': WHATEVER THE INPUT: true; the input reads as it did. -/
def fnFaultsCountsOneMoreFaultSpec : ChangeSpec := { name := "fnFaultsCountsOneMoreFault", fn := fun _ => fun
  | [d1, d2] => { results := [.lit (.bool true)], args := [d1, d2] }
  | _ => none }
def fnFaultsCountsOneMoreFaultRow : OpenClaim := { program := "qxb6615526amods", sum := "01dad726a6b277d2c21923314c591f910a5f996983ea0095da2a3f3d8720977d", func := "example.com/quorate/quorate/zzlaws_root_b1.FnFaultsCountsOneMoreFault", spec := "fnFaultsCountsOneMoreFault", make := .lifted ["publicsums"], apart := false }
def FnFaultsCountsOneMoreFaultSaid : Prop := fnFaultsCountsOneMoreFaultRow.holds Trym.pinned (OpenSpec.ofChange fnFaultsCountsOneMoreFaultSpec)

/-- ITS FALSE NEIGHBOUR: 'it returns false'. Refute it at one input. -/
def fnFaultsCountsOneMoreFaultWrong : ChangeSpec := { name := "fnFaultsCountsOneMoreFault", fn := fun _ => fun
  | [d1, d2] => { results := [.lit (.bool false)], args := [d1, d2] }
  | _ => none }
def FnFaultsCountsOneMoreFaultWrongFalsely : Prop := fnFaultsCountsOneMoreFaultRow.holds Trym.pinned (OpenSpec.ofChange fnFaultsCountsOneMoreFaultWrong)

/-- 'zzlaws_root_b1.FnTakeDrainsOldestFirst': WHATEVER THE INPUT: true; the input reads as it did. -/
def fnTakeDrainsOldestFirstSpec : ChangeSpec := { name := "fnTakeDrainsOldestFirst", fn := fun _ => fun
  | [d] => { results := [.lit (.bool true)], args := [d] }
  | _ => none }
def fnTakeDrainsOldestFirstRow : OpenClaim := { program := "qxb6615526amods", sum := "01dad726a6b277d2c21923314c591f910a5f996983ea0095da2a3f3d8720977d", func := "example.com/quorate/quorate/zzlaws_root_b1.FnTakeDrainsOldestFirst", spec := "fnTakeDrainsOldestFirst", inPlace := ["(*internal/sync.Mutex).Lock", "internal/race.Disable", "sync/atomic.CompareAndSwapInt32", "internal/race.Enable", "internal/race.Acquire", "(*internal/sync.Mutex).lockSlow", "internal/sync.runtime_canSpin", "internal/sync.runtime_doSpin", "internal/sync.throw", "internal/sync.runtime_nanotime", "internal/sync.runtime_SemacquireMutex", "sync/atomic.AddInt32", "(*internal/sync.Mutex).Unlock", "internal/race.ReleaseMerge", "(*internal/sync.Mutex).unlockSlow", "internal/sync.fatal", "internal/sync.runtime_Semrelease"], make := .lifted ["publicsums"], apart := false }
def FnTakeDrainsOldestFirstSaid : Prop := fnTakeDrainsOldestFirstRow.holds Trym.pinned (OpenSpec.ofChange fnTakeDrainsOldestFirstSpec)

/-- ITS FALSE NEIGHBOUR: 'it returns false'. Refute it at one input. -/
def fnTakeDrainsOldestFirstWrong : ChangeSpec := { name := "fnTakeDrainsOldestFirst", fn := fun _ => fun
  | [d] => { results := [.lit (.bool false)], args := [d] }
  | _ => none }
def FnTakeDrainsOldestFirstWrongFalsely : Prop := fnTakeDrainsOldestFirstRow.holds Trym.pinned (OpenSpec.ofChange fnTakeDrainsOldestFirstWrong)

/-- 'zzlaws_root_b1.FnTakeKeepsTheTakenFrameCounted': WHATEVER THE INPUT: true; the input reads as it did. -/
def fnTakeKeepsTheTakenFrameCountedSpec : ChangeSpec := { name := "fnTakeKeepsTheTakenFrameCounted", fn := fun _ => fun
  | [d] => { results := [.lit (.bool true)], args := [d] }
  | _ => none }
def fnTakeKeepsTheTakenFrameCountedRow : OpenClaim := { program := "qxb6615526amods", sum := "01dad726a6b277d2c21923314c591f910a5f996983ea0095da2a3f3d8720977d", func := "example.com/quorate/quorate/zzlaws_root_b1.FnTakeKeepsTheTakenFrameCounted", spec := "fnTakeKeepsTheTakenFrameCounted", inPlace := ["(*internal/sync.Mutex).Lock", "internal/race.Disable", "sync/atomic.CompareAndSwapInt32", "internal/race.Enable", "internal/race.Acquire", "(*internal/sync.Mutex).lockSlow", "internal/sync.runtime_canSpin", "internal/sync.runtime_doSpin", "internal/sync.throw", "internal/sync.runtime_nanotime", "internal/sync.runtime_SemacquireMutex", "sync/atomic.AddInt32", "(*internal/sync.Mutex).Unlock", "internal/race.ReleaseMerge", "(*internal/sync.Mutex).unlockSlow", "internal/sync.fatal", "internal/sync.runtime_Semrelease"], make := .lifted ["publicsums"], apart := false }
def FnTakeKeepsTheTakenFrameCountedSaid : Prop := fnTakeKeepsTheTakenFrameCountedRow.holds Trym.pinned (OpenSpec.ofChange fnTakeKeepsTheTakenFrameCountedSpec)

/-- ITS FALSE NEIGHBOUR: 'it returns false'. Refute it at one input. -/
def fnTakeKeepsTheTakenFrameCountedWrong : ChangeSpec := { name := "fnTakeKeepsTheTakenFrameCounted", fn := fun _ => fun
  | [d] => { results := [.lit (.bool false)], args := [d] }
  | _ => none }
def FnTakeKeepsTheTakenFrameCountedWrongFalsely : Prop := fnTakeKeepsTheTakenFrameCountedRow.holds Trym.pinned (OpenSpec.ofChange fnTakeKeepsTheTakenFrameCountedWrong)

end Rows
end Go.Proofs.Qxb6615526aMods
