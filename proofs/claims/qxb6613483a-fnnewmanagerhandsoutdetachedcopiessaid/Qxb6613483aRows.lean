/-
  No cell of these rows narrows 'for every input' (looked for: loops, veiled, ifaces, maps, wideKeys, modest, calm, conditions, laid).
  DERIVED. THE GIVEN ROWS OF THIS SEAT. 7 by the template 'for every input the law returns true; each argument reads behind the call as it read before'; 0 by the template 'total and deterministic' (their statements: Qxb6613483aTotals.lean).
  GIVEN WITH THE SEED: the statements are not yours to turn. If you find one false, say at which input.
  Laid BY PROGRAM, IN A SANDBOX (cutbox-rows.mjs): the forced cells as the released guide's own fill.sh prints them over the translation 9e32413b14c0b2ec… (all of the seat's roots in one cut). By AI agents, Wed Nov 11 2026. No macro, syntax, notation, axiom, sorry.
-/
import Derived.Test.Qxb6613483aChecked
import GoSem.Claim
import GoSem.ClaimJoined
import GoSem.ClaimMapViews
import Derived.JoinedTies
import Derived.KernelRfl
namespace Go.Proofs.Qxb6613483a
/- THE CELL 'sum', in the pinned program and in every row, IS THE sha256 OF THE DUMP (.gsa) THAT Qxb6613483aProg.lean LOADS. Nothing in Lean hashes anything: it is a label: what it is worth is what the hold of that sum in a sandbox is worth. -/
noncomputable def Try.pinned : Pinned := { name := "qxb6613483a", sum := "9e32413b14c0b2ec7372d34b9ff0120af50644a2afbe6aee700495bf350b70f4", checked := Try.checked }
namespace Rows
def none {H : Type} : Left H := { results := [], args := [] }

/-- 'zzlaws_refcount_b1.FnGetRefCountFindsLastStored': WHATEVER THE INPUT: true; the input reads as it did. -/
def fnGetRefCountFindsLastStoredSpec : ChangeSpec := { name := "fnGetRefCountFindsLastStored", fn := fun _ => fun
  | [d1, d2, d3, d4] => { results := [.lit (.bool true)], args := [d1, d2, d3, d4] }
  | _ => none }
def fnGetRefCountFindsLastStoredRow : OpenClaim := { program := "qxb6613483a", sum := "9e32413b14c0b2ec7372d34b9ff0120af50644a2afbe6aee700495bf350b70f4", func := "example.com/walq/walq/zzlaws_refcount_b1.FnGetRefCountFindsLastStored", spec := "fnGetRefCountFindsLastStored", apart := false }
def FnGetRefCountFindsLastStoredSaid : Prop := fnGetRefCountFindsLastStoredRow.holds Try.pinned (OpenSpec.ofChange fnGetRefCountFindsLastStoredSpec)

/-- ITS FALSE NEIGHBOUR: 'it returns false'. Refute it at one input. -/
def fnGetRefCountFindsLastStoredWrong : ChangeSpec := { name := "fnGetRefCountFindsLastStored", fn := fun _ => fun
  | [d1, d2, d3, d4] => { results := [.lit (.bool false)], args := [d1, d2, d3, d4] }
  | _ => none }
def FnGetRefCountFindsLastStoredWrongFalsely : Prop := fnGetRefCountFindsLastStoredRow.holds Try.pinned (OpenSpec.ofChange fnGetRefCountFindsLastStoredWrong)

/-- 'zzlaws_refcount_b1.FnGetRefCountReadsChangeNothing': WHATEVER THE INPUT: true; the input reads as it did. -/
def fnGetRefCountReadsChangeNothingSpec : ChangeSpec := { name := "fnGetRefCountReadsChangeNothing", fn := fun _ => fun
  | [d1, d2, d3, d4] => { results := [.lit (.bool true)], args := [d1, d2, d3, d4] }
  | _ => none }
def fnGetRefCountReadsChangeNothingRow : OpenClaim := { program := "qxb6613483a", sum := "9e32413b14c0b2ec7372d34b9ff0120af50644a2afbe6aee700495bf350b70f4", func := "example.com/walq/walq/zzlaws_refcount_b1.FnGetRefCountReadsChangeNothing", spec := "fnGetRefCountReadsChangeNothing", apart := false }
def FnGetRefCountReadsChangeNothingSaid : Prop := fnGetRefCountReadsChangeNothingRow.holds Try.pinned (OpenSpec.ofChange fnGetRefCountReadsChangeNothingSpec)

/-- ITS FALSE NEIGHBOUR: 'it returns false'. Refute it at one input. -/
def fnGetRefCountReadsChangeNothingWrong : ChangeSpec := { name := "fnGetRefCountReadsChangeNothing", fn := fun _ => fun
  | [d1, d2, d3, d4] => { results := [.lit (.bool false)], args := [d1, d2, d3, d4] }
  | _ => none }
def FnGetRefCountReadsChangeNothingWrongFalsely : Prop := fnGetRefCountReadsChangeNothingRow.holds Try.pinned (OpenSpec.ofChange fnGetRefCountReadsChangeNothingWrong)

/-- 'zzlaws_refcount_b1.FnDeleteRefCountDropsJustThatID': WHATEVER THE INPUT: true; the input reads as it did. -/
def fnDeleteRefCountDropsJustThatIDSpec : ChangeSpec := { name := "fnDeleteRefCountDropsJustThatID", fn := fun _ => fun
  | [d1, d2, d3, d4, d5] => { results := [.lit (.bool true)], args := [d1, d2, d3, d4, d5] }
  | _ => none }
def fnDeleteRefCountDropsJustThatIDRow : OpenClaim := { program := "qxb6613483a", sum := "9e32413b14c0b2ec7372d34b9ff0120af50644a2afbe6aee700495bf350b70f4", func := "example.com/walq/walq/zzlaws_refcount_b1.FnDeleteRefCountDropsJustThatID", spec := "fnDeleteRefCountDropsJustThatID", apart := false }
def FnDeleteRefCountDropsJustThatIDSaid : Prop := fnDeleteRefCountDropsJustThatIDRow.holds Try.pinned (OpenSpec.ofChange fnDeleteRefCountDropsJustThatIDSpec)

/-- ITS FALSE NEIGHBOUR: 'it returns false'. Refute it at one input. -/
def fnDeleteRefCountDropsJustThatIDWrong : ChangeSpec := { name := "fnDeleteRefCountDropsJustThatID", fn := fun _ => fun
  | [d1, d2, d3, d4, d5] => { results := [.lit (.bool false)], args := [d1, d2, d3, d4, d5] }
  | _ => none }
def FnDeleteRefCountDropsJustThatIDWrongFalsely : Prop := fnDeleteRefCountDropsJustThatIDRow.holds Try.pinned (OpenSpec.ofChange fnDeleteRefCountDropsJustThatIDWrong)

/-- 'zzlaws_refcount_b1.FnDeleteRefCountScriptLeavesTheRest': WHATEVER THE INPUT: true; the input reads as it did. -/
def fnDeleteRefCountScriptLeavesTheRestSpec : ChangeSpec := { name := "fnDeleteRefCountScriptLeavesTheRest", fn := fun _ => fun
  | [d1, d2, d3, d4] => { results := [.lit (.bool true)], args := [d1, d2, d3, d4] }
  | _ => none }
def fnDeleteRefCountScriptLeavesTheRestRow : OpenClaim := { program := "qxb6613483a", sum := "9e32413b14c0b2ec7372d34b9ff0120af50644a2afbe6aee700495bf350b70f4", func := "example.com/walq/walq/zzlaws_refcount_b1.FnDeleteRefCountScriptLeavesTheRest", spec := "fnDeleteRefCountScriptLeavesTheRest", apart := false }
def FnDeleteRefCountScriptLeavesTheRestSaid : Prop := fnDeleteRefCountScriptLeavesTheRestRow.holds Try.pinned (OpenSpec.ofChange fnDeleteRefCountScriptLeavesTheRestSpec)

/-- ITS FALSE NEIGHBOUR: 'it returns false'. Refute it at one input. -/
def fnDeleteRefCountScriptLeavesTheRestWrong : ChangeSpec := { name := "fnDeleteRefCountScriptLeavesTheRest", fn := fun _ => fun
  | [d1, d2, d3, d4] => { results := [.lit (.bool false)], args := [d1, d2, d3, d4] }
  | _ => none }
def FnDeleteRefCountScriptLeavesTheRestWrongFalsely : Prop := fnDeleteRefCountScriptLeavesTheRestRow.holds Try.pinned (OpenSpec.ofChange fnDeleteRefCountScriptLeavesTheRestWrong)

/-- 'zzlaws_refcount_b1.FnNewMemoryStorageFreshEmptyAndSeparate': WHATEVER THE INPUT: true; the input reads as it did. -/
def fnNewMemoryStorageFreshEmptyAndSeparateSpec : ChangeSpec := { name := "fnNewMemoryStorageFreshEmptyAndSeparate", fn := fun _ => fun
  | [d1, d2, d3, d4] => { results := [.lit (.bool true)], args := [d1, d2, d3, d4] }
  | _ => none }
def fnNewMemoryStorageFreshEmptyAndSeparateRow : OpenClaim := { program := "qxb6613483a", sum := "9e32413b14c0b2ec7372d34b9ff0120af50644a2afbe6aee700495bf350b70f4", func := "example.com/walq/walq/zzlaws_refcount_b1.FnNewMemoryStorageFreshEmptyAndSeparate", spec := "fnNewMemoryStorageFreshEmptyAndSeparate", apart := false }
def FnNewMemoryStorageFreshEmptyAndSeparateSaid : Prop := fnNewMemoryStorageFreshEmptyAndSeparateRow.holds Try.pinned (OpenSpec.ofChange fnNewMemoryStorageFreshEmptyAndSeparateSpec)

/-- ITS FALSE NEIGHBOUR: 'it returns false'. Refute it at one input. -/
def fnNewMemoryStorageFreshEmptyAndSeparateWrong : ChangeSpec := { name := "fnNewMemoryStorageFreshEmptyAndSeparate", fn := fun _ => fun
  | [d1, d2, d3, d4] => { results := [.lit (.bool false)], args := [d1, d2, d3, d4] }
  | _ => none }
def FnNewMemoryStorageFreshEmptyAndSeparateWrongFalsely : Prop := fnNewMemoryStorageFreshEmptyAndSeparateRow.holds Try.pinned (OpenSpec.ofChange fnNewMemoryStorageFreshEmptyAndSeparateWrong)

/-- 'zzlaws_refcount_b1.FnNewManagerHandsOutDetachedCopies': WHATEVER THE INPUT: true; the input reads as it did. -/
def fnNewManagerHandsOutDetachedCopiesSpec : ChangeSpec := { name := "fnNewManagerHandsOutDetachedCopies", fn := fun _ => fun
  | [d1, d2, d3, d4] => { results := [.lit (.bool true)], args := [d1, d2, d3, d4] }
  | _ => none }
def fnNewManagerHandsOutDetachedCopiesRow : OpenClaim := { program := "qxb6613483a", sum := "9e32413b14c0b2ec7372d34b9ff0120af50644a2afbe6aee700495bf350b70f4", func := "example.com/walq/walq/zzlaws_refcount_b1.FnNewManagerHandsOutDetachedCopies", spec := "fnNewManagerHandsOutDetachedCopies", inPlace := ["(*internal/sync.Mutex).Lock", "internal/race.Disable", "sync/atomic.CompareAndSwapInt32", "internal/race.Enable", "internal/race.Acquire", "(*internal/sync.Mutex).lockSlow", "internal/sync.runtime_canSpin", "internal/sync.runtime_doSpin", "internal/sync.throw", "internal/sync.runtime_nanotime", "internal/sync.runtime_SemacquireMutex", "sync/atomic.AddInt32", "(*internal/sync.Mutex).Unlock", "internal/race.ReleaseMerge", "(*internal/sync.Mutex).unlockSlow", "internal/sync.fatal", "internal/sync.runtime_Semrelease"], unfollowed := true, recurses := true, apart := false }
def FnNewManagerHandsOutDetachedCopiesSaid : Prop := fnNewManagerHandsOutDetachedCopiesRow.holds Try.pinned (OpenSpec.ofChange fnNewManagerHandsOutDetachedCopiesSpec)

/-- ITS FALSE NEIGHBOUR: 'it returns false'. Refute it at one input. -/
def fnNewManagerHandsOutDetachedCopiesWrong : ChangeSpec := { name := "fnNewManagerHandsOutDetachedCopies", fn := fun _ => fun
  | [d1, d2, d3, d4] => { results := [.lit (.bool false)], args := [d1, d2, d3, d4] }
  | _ => none }
def FnNewManagerHandsOutDetachedCopiesWrongFalsely : Prop := fnNewManagerHandsOutDetachedCopiesRow.holds Try.pinned (OpenSpec.ofChange fnNewManagerHandsOutDetachedCopiesWrong)

/-- 'zzlaws_refcount_b1.FnNewManagerReadsStorageLive': WHATEVER THE INPUT: true; the input reads as it did. -/
def fnNewManagerReadsStorageLiveSpec : ChangeSpec := { name := "fnNewManagerReadsStorageLive", fn := fun _ => fun
  | [d1, d2, d3, d4, d5] => { results := [.lit (.bool true)], args := [d1, d2, d3, d4, d5] }
  | _ => none }
def fnNewManagerReadsStorageLiveRow : OpenClaim := { program := "qxb6613483a", sum := "9e32413b14c0b2ec7372d34b9ff0120af50644a2afbe6aee700495bf350b70f4", func := "example.com/walq/walq/zzlaws_refcount_b1.FnNewManagerReadsStorageLive", spec := "fnNewManagerReadsStorageLive", inPlace := ["(*internal/sync.Mutex).Lock", "internal/race.Disable", "sync/atomic.CompareAndSwapInt32", "internal/race.Enable", "internal/race.Acquire", "(*internal/sync.Mutex).lockSlow", "internal/sync.runtime_canSpin", "internal/sync.runtime_doSpin", "internal/sync.throw", "internal/sync.runtime_nanotime", "internal/sync.runtime_SemacquireMutex", "sync/atomic.AddInt32", "(*internal/sync.Mutex).Unlock", "internal/race.ReleaseMerge", "(*internal/sync.Mutex).unlockSlow", "internal/sync.fatal", "internal/sync.runtime_Semrelease"], unfollowed := true, recurses := true, apart := false }
def FnNewManagerReadsStorageLiveSaid : Prop := fnNewManagerReadsStorageLiveRow.holds Try.pinned (OpenSpec.ofChange fnNewManagerReadsStorageLiveSpec)

/-- ITS FALSE NEIGHBOUR: 'it returns false'. Refute it at one input. -/
def fnNewManagerReadsStorageLiveWrong : ChangeSpec := { name := "fnNewManagerReadsStorageLive", fn := fun _ => fun
  | [d1, d2, d3, d4, d5] => { results := [.lit (.bool false)], args := [d1, d2, d3, d4, d5] }
  | _ => none }
def FnNewManagerReadsStorageLiveWrongFalsely : Prop := fnNewManagerReadsStorageLiveRow.holds Try.pinned (OpenSpec.ofChange fnNewManagerReadsStorageLiveWrong)

end Rows
end Go.Proofs.Qxb6613483a
