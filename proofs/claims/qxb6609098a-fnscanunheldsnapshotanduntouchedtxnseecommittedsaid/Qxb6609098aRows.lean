/-
  No cell of these rows narrows 'for every input' (looked for: loops, veiled, ifaces, maps, wideKeys, modest, calm, conditions, laid).
  DERIVED. THE GIVEN ROWS OF THIS SEAT. 6 by the template 'for every input the law returns true; each argument reads behind the call as it read before'; 0 by the template 'total and deterministic' (their statements: Qxb6609098aTotals.lean).
  GIVEN WITH THE SEED: the statements are not yours to turn. If you find one false, say at which input.
  Laid BY PROGRAM, IN A SANDBOX (cutbox-rows.mjs): the forced cells as the released guide's own fill.sh prints them over the translation a2df501813aa1e04… (all of the seat's roots in one cut). By AI agents, Wed Nov 11 2026. No macro, syntax, notation, axiom, sorry.
-/
import Derived.Test.Qxb6609098aChecked
import GoSem.Claim
import GoSem.ClaimJoined
import GoSem.ClaimMapViews
import Derived.JoinedTies
import Derived.KernelRfl
namespace Go.Proofs.Qxb6609098a
/- THE CELL 'sum', in the pinned program and in every row, IS THE sha256 OF THE DUMP (.gsa) THAT Qxb6609098aProg.lean LOADS. Nothing in Lean hashes anything: it is a label: what it is worth is what the hold of that sum in a sandbox is worth. -/
noncomputable def Try.pinned : Pinned := { name := "qxb6609098a", sum := "a2df501813aa1e041881b8a0000415815eeacdec47476dea0536caf0364f2723", checked := Try.checked }
namespace Rows
def none {H : Type} : Left H := { results := [], args := [] }

/-- 'zzlaws_internal_engine_b1.FnSumAddFoldIsSumOfNonNull': WHATEVER THE INPUT: true; the input reads as it did. -/
def fnSumAddFoldIsSumOfNonNullSpec : ChangeSpec := { name := "fnSumAddFoldIsSumOfNonNull", fn := fun _ => fun
  | [d1, d2] => { results := [.lit (.bool true)], args := [d1, d2] }
  | _ => none }
def fnSumAddFoldIsSumOfNonNullRow : OpenClaim := { program := "qxb6609098a", sum := "a2df501813aa1e041881b8a0000415815eeacdec47476dea0536caf0364f2723", func := "example.com/tablehold/tablehold/zzlaws_internal_engine_b1.FnSumAddFoldIsSumOfNonNull", spec := "fnSumAddFoldIsSumOfNonNull", plainKeys := false, apart := false }
def FnSumAddFoldIsSumOfNonNullSaid : Prop := fnSumAddFoldIsSumOfNonNullRow.holds Try.pinned (OpenSpec.ofChange fnSumAddFoldIsSumOfNonNullSpec)

/-- ITS FALSE NEIGHBOUR: 'it returns false'. Refute it at one input. -/
def fnSumAddFoldIsSumOfNonNullWrong : ChangeSpec := { name := "fnSumAddFoldIsSumOfNonNull", fn := fun _ => fun
  | [d1, d2] => { results := [.lit (.bool false)], args := [d1, d2] }
  | _ => none }
def FnSumAddFoldIsSumOfNonNullWrongFalsely : Prop := fnSumAddFoldIsSumOfNonNullRow.holds Try.pinned (OpenSpec.ofChange fnSumAddFoldIsSumOfNonNullWrong)

/-- 'zzlaws_internal_engine_b1.FnSumAddCutAndNullAnywhere': WHATEVER THE INPUT: true; the input reads as it did. -/
def fnSumAddCutAndNullAnywhereSpec : ChangeSpec := { name := "fnSumAddCutAndNullAnywhere", fn := fun _ => fun
  | [d1, d2, d3] => { results := [.lit (.bool true)], args := [d1, d2, d3] }
  | _ => none }
def fnSumAddCutAndNullAnywhereRow : OpenClaim := { program := "qxb6609098a", sum := "a2df501813aa1e041881b8a0000415815eeacdec47476dea0536caf0364f2723", func := "example.com/tablehold/tablehold/zzlaws_internal_engine_b1.FnSumAddCutAndNullAnywhere", spec := "fnSumAddCutAndNullAnywhere", plainKeys := false, apart := false }
def FnSumAddCutAndNullAnywhereSaid : Prop := fnSumAddCutAndNullAnywhereRow.holds Try.pinned (OpenSpec.ofChange fnSumAddCutAndNullAnywhereSpec)

/-- ITS FALSE NEIGHBOUR: 'it returns false'. Refute it at one input. -/
def fnSumAddCutAndNullAnywhereWrong : ChangeSpec := { name := "fnSumAddCutAndNullAnywhere", fn := fun _ => fun
  | [d1, d2, d3] => { results := [.lit (.bool false)], args := [d1, d2, d3] }
  | _ => none }
def FnSumAddCutAndNullAnywhereWrongFalsely : Prop := fnSumAddCutAndNullAnywhereRow.holds Try.pinned (OpenSpec.ofChange fnSumAddCutAndNullAnywhereWrong)

/-- 'zzlaws_internal_engine_b1.FnEngineSessionFindsLastRegistered': WHATEVER THE INPUT: true; the input reads as it did. -/
def fnEngineSessionFindsLastRegisteredSpec : ChangeSpec := { name := "fnEngineSessionFindsLastRegistered", fn := fun _ => fun
  | [d1, d2] => { results := [.lit (.bool true)], args := [d1, d2] }
  | _ => none }
def fnEngineSessionFindsLastRegisteredRow : OpenClaim := { program := "qxb6609098a", sum := "a2df501813aa1e041881b8a0000415815eeacdec47476dea0536caf0364f2723", func := "example.com/tablehold/tablehold/zzlaws_internal_engine_b1.FnEngineSessionFindsLastRegistered", spec := "fnEngineSessionFindsLastRegistered", inPlace := ["(*internal/sync.Mutex).Lock", "internal/race.Disable", "sync/atomic.CompareAndSwapInt32", "internal/race.Enable", "internal/race.Acquire", "(*internal/sync.Mutex).lockSlow", "internal/sync.runtime_canSpin", "internal/sync.runtime_doSpin", "internal/sync.throw", "internal/sync.runtime_nanotime", "internal/sync.runtime_SemacquireMutex", "sync/atomic.AddInt32", "(*internal/sync.Mutex).Unlock", "internal/race.ReleaseMerge", "(*internal/sync.Mutex).unlockSlow", "internal/sync.fatal", "internal/sync.runtime_Semrelease"], plainKeys := false, apart := false }
def FnEngineSessionFindsLastRegisteredSaid : Prop := fnEngineSessionFindsLastRegisteredRow.holds Try.pinned (OpenSpec.ofChange fnEngineSessionFindsLastRegisteredSpec)

/-- ITS FALSE NEIGHBOUR: 'it returns false'. Refute it at one input. -/
def fnEngineSessionFindsLastRegisteredWrong : ChangeSpec := { name := "fnEngineSessionFindsLastRegistered", fn := fun _ => fun
  | [d1, d2] => { results := [.lit (.bool false)], args := [d1, d2] }
  | _ => none }
def FnEngineSessionFindsLastRegisteredWrongFalsely : Prop := fnEngineSessionFindsLastRegisteredRow.holds Try.pinned (OpenSpec.ofChange fnEngineSessionFindsLastRegisteredWrong)

/-- 'zzlaws_internal_engine_b1.FnEngineSessionHighIdsNeverAlias': WHATEVER THE INPUT: true; the input reads as it did. -/
def fnEngineSessionHighIdsNeverAliasSpec : ChangeSpec := { name := "fnEngineSessionHighIdsNeverAlias", fn := fun _ => fun
  | [d1, d2] => { results := [.lit (.bool true)], args := [d1, d2] }
  | _ => none }
def fnEngineSessionHighIdsNeverAliasRow : OpenClaim := { program := "qxb6609098a", sum := "a2df501813aa1e041881b8a0000415815eeacdec47476dea0536caf0364f2723", func := "example.com/tablehold/tablehold/zzlaws_internal_engine_b1.FnEngineSessionHighIdsNeverAlias", spec := "fnEngineSessionHighIdsNeverAlias", inPlace := ["(*internal/sync.Mutex).Lock", "internal/race.Disable", "sync/atomic.CompareAndSwapInt32", "internal/race.Enable", "internal/race.Acquire", "(*internal/sync.Mutex).lockSlow", "internal/sync.runtime_canSpin", "internal/sync.runtime_doSpin", "internal/sync.throw", "internal/sync.runtime_nanotime", "internal/sync.runtime_SemacquireMutex", "sync/atomic.AddInt32", "(*internal/sync.Mutex).Unlock", "internal/race.ReleaseMerge", "(*internal/sync.Mutex).unlockSlow", "internal/sync.fatal", "internal/sync.runtime_Semrelease"], plainKeys := false, apart := false }
def FnEngineSessionHighIdsNeverAliasSaid : Prop := fnEngineSessionHighIdsNeverAliasRow.holds Try.pinned (OpenSpec.ofChange fnEngineSessionHighIdsNeverAliasSpec)

/-- ITS FALSE NEIGHBOUR: 'it returns false'. Refute it at one input. -/
def fnEngineSessionHighIdsNeverAliasWrong : ChangeSpec := { name := "fnEngineSessionHighIdsNeverAlias", fn := fun _ => fun
  | [d1, d2] => { results := [.lit (.bool false)], args := [d1, d2] }
  | _ => none }
def FnEngineSessionHighIdsNeverAliasWrongFalsely : Prop := fnEngineSessionHighIdsNeverAliasRow.holds Try.pinned (OpenSpec.ofChange fnEngineSessionHighIdsNeverAliasWrong)

/-- 'zzlaws_internal_engine_b1.FnScanPlainSessionSeesEachTablesRows': WHATEVER THE INPUT: true; the input reads as it did. -/
def fnScanPlainSessionSeesEachTablesRowsSpec : ChangeSpec := { name := "fnScanPlainSessionSeesEachTablesRows", fn := fun _ => fun
  | [d1, d2] => { results := [.lit (.bool true)], args := [d1, d2] }
  | _ => none }
def fnScanPlainSessionSeesEachTablesRowsRow : OpenClaim := { program := "qxb6609098a", sum := "a2df501813aa1e041881b8a0000415815eeacdec47476dea0536caf0364f2723", func := "example.com/tablehold/tablehold/zzlaws_internal_engine_b1.FnScanPlainSessionSeesEachTablesRows", spec := "fnScanPlainSessionSeesEachTablesRows", inPlace := ["(*sync.RWMutex).RLock", "internal/race.Read", "internal/race.Disable", "sync/atomic.AddInt32", "sync.runtime_SemacquireRWMutexR", "internal/race.Enable", "internal/race.Acquire", "(*sync.RWMutex).RUnlock", "internal/race.ReleaseMerge", "(*sync.RWMutex).rUnlockSlow", "sync.fatal", "sync.runtime_Semrelease"], unfollowed := true, recurses := true, plainKeys := false, apart := false }
def FnScanPlainSessionSeesEachTablesRowsSaid : Prop := fnScanPlainSessionSeesEachTablesRowsRow.holds Try.pinned (OpenSpec.ofChange fnScanPlainSessionSeesEachTablesRowsSpec)

/-- ITS FALSE NEIGHBOUR: 'it returns false'. Refute it at one input. -/
def fnScanPlainSessionSeesEachTablesRowsWrong : ChangeSpec := { name := "fnScanPlainSessionSeesEachTablesRows", fn := fun _ => fun
  | [d1, d2] => { results := [.lit (.bool false)], args := [d1, d2] }
  | _ => none }
def FnScanPlainSessionSeesEachTablesRowsWrongFalsely : Prop := fnScanPlainSessionSeesEachTablesRowsRow.holds Try.pinned (OpenSpec.ofChange fnScanPlainSessionSeesEachTablesRowsWrong)

/-- 'zzlaws_internal_engine_b1.FnScanUnheldSnapshotAndUntouchedTxnSeeCommitted': WHATEVER THE INPUT: true; the input reads as it did. -/
def fnScanUnheldSnapshotAndUntouchedTxnSeeCommittedSpec : ChangeSpec := { name := "fnScanUnheldSnapshotAndUntouchedTxnSeeCommitted", fn := fun _ => fun
  | [d1, d2] => { results := [.lit (.bool true)], args := [d1, d2] }
  | _ => none }
def fnScanUnheldSnapshotAndUntouchedTxnSeeCommittedRow : OpenClaim := { program := "qxb6609098a", sum := "a2df501813aa1e041881b8a0000415815eeacdec47476dea0536caf0364f2723", func := "example.com/tablehold/tablehold/zzlaws_internal_engine_b1.FnScanUnheldSnapshotAndUntouchedTxnSeeCommitted", spec := "fnScanUnheldSnapshotAndUntouchedTxnSeeCommitted", inPlace := ["(*sync.RWMutex).RLock", "internal/race.Read", "internal/race.Disable", "sync/atomic.AddInt32", "sync.runtime_SemacquireRWMutexR", "internal/race.Enable", "internal/race.Acquire", "(*sync.RWMutex).RUnlock", "internal/race.ReleaseMerge", "(*sync.RWMutex).rUnlockSlow", "sync.fatal", "sync.runtime_Semrelease"], unfollowed := true, recurses := true, plainKeys := false, apart := false }
def FnScanUnheldSnapshotAndUntouchedTxnSeeCommittedSaid : Prop := fnScanUnheldSnapshotAndUntouchedTxnSeeCommittedRow.holds Try.pinned (OpenSpec.ofChange fnScanUnheldSnapshotAndUntouchedTxnSeeCommittedSpec)

/-- ITS FALSE NEIGHBOUR: 'it returns false'. Refute it at one input. -/
def fnScanUnheldSnapshotAndUntouchedTxnSeeCommittedWrong : ChangeSpec := { name := "fnScanUnheldSnapshotAndUntouchedTxnSeeCommitted", fn := fun _ => fun
  | [d1, d2] => { results := [.lit (.bool false)], args := [d1, d2] }
  | _ => none }
def FnScanUnheldSnapshotAndUntouchedTxnSeeCommittedWrongFalsely : Prop := fnScanUnheldSnapshotAndUntouchedTxnSeeCommittedRow.holds Try.pinned (OpenSpec.ofChange fnScanUnheldSnapshotAndUntouchedTxnSeeCommittedWrong)

end Rows
end Go.Proofs.Qxb6609098a
