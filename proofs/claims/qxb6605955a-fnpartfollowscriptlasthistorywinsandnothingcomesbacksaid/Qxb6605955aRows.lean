/-
  No cell of these rows narrows 'for every input' (looked for: loops, veiled, ifaces, maps, wideKeys, modest, calm, conditions, laid).
  DERIVED. THE GIVEN ROWS OF THIS SEAT. 4 by the template 'for every input the law returns true; each argument reads behind the call as it read before'; 0 by the template 'total and deterministic' (their statements: Qxb6605955aTotals.lean).
  GIVEN WITH THE SEED: the statements are not yours to turn. If you find one false, say at which input.
  Laid BY PROGRAM, IN A SANDBOX (cutbox-rows.mjs): the forced cells as the released guide's own fill.sh prints them over the translation 67d538a9fba787b9… (all of the seat's roots in one cut). By AI agents, Wed Nov 11 2026. No macro, syntax, notation, axiom, sorry.
-/
import Derived.Test.Qxb6605955aChecked
import GoSem.Claim
import GoSem.ClaimJoined
import GoSem.ClaimMapViews
import Derived.JoinedTies
import Derived.KernelRfl
namespace Go.Proofs.Qxb6605955a
/- THE CELL 'sum', in the pinned program and in every row, IS THE sha256 OF THE DUMP (.gsa) THAT Qxb6605955aProg.lean LOADS. Nothing in Lean hashes anything: it is a label: what it is worth is what the hold of that sum in a sandbox is worth. -/
noncomputable def Try.pinned : Pinned := { name := "qxb6605955a", sum := "67d538a9fba787b9fca568bdcc421450e834664e4de25d934ddfa9ee240ba5af", checked := Try.checked }
namespace Rows
def none {H : Type} : Left H := { results := [], args := [] }

/-- 'zzlaws_internal_server_b1.FnWaitedCountsOneAndOldestIsTheLargerWait': WHATEVER THE INPUT: true; the input reads as it did. -/
def fnWaitedCountsOneAndOldestIsTheLargerWaitSpec : ChangeSpec := { name := "fnWaitedCountsOneAndOldestIsTheLargerWait", fn := fun _ => fun
  | [d1, d2, d3] => { results := [.lit (.bool true)], args := [d1, d2, d3] }
  | _ => none }
def fnWaitedCountsOneAndOldestIsTheLargerWaitRow : OpenClaim := { program := "qxb6605955a", sum := "67d538a9fba787b9fca568bdcc421450e834664e4de25d934ddfa9ee240ba5af", func := "example.com/freshet/freshet/zzlaws_internal_server_b1.FnWaitedCountsOneAndOldestIsTheLargerWait", spec := "fnWaitedCountsOneAndOldestIsTheLargerWait", apart := false }
def FnWaitedCountsOneAndOldestIsTheLargerWaitSaid : Prop := fnWaitedCountsOneAndOldestIsTheLargerWaitRow.holds Try.pinned (OpenSpec.ofChange fnWaitedCountsOneAndOldestIsTheLargerWaitSpec)

/-- ITS FALSE NEIGHBOUR: 'it returns false'. Refute it at one input. -/
def fnWaitedCountsOneAndOldestIsTheLargerWaitWrong : ChangeSpec := { name := "fnWaitedCountsOneAndOldestIsTheLargerWait", fn := fun _ => fun
  | [d1, d2, d3] => { results := [.lit (.bool false)], args := [d1, d2, d3] }
  | _ => none }
def FnWaitedCountsOneAndOldestIsTheLargerWaitWrongFalsely : Prop := fnWaitedCountsOneAndOldestIsTheLargerWaitRow.holds Try.pinned (OpenSpec.ofChange fnWaitedCountsOneAndOldestIsTheLargerWaitWrong)

/-- 'zzlaws_internal_server_b1.FnWaitedFromEmptyCountsAllAndKeepsTheLongest': WHATEVER THE INPUT: true; the input reads as it did. -/
def fnWaitedFromEmptyCountsAllAndKeepsTheLongestSpec : ChangeSpec := { name := "fnWaitedFromEmptyCountsAllAndKeepsTheLongest", fn := fun _ => fun
  | [d] => { results := [.lit (.bool true)], args := [d] }
  | _ => none }
def fnWaitedFromEmptyCountsAllAndKeepsTheLongestRow : OpenClaim := { program := "qxb6605955a", sum := "67d538a9fba787b9fca568bdcc421450e834664e4de25d934ddfa9ee240ba5af", func := "example.com/freshet/freshet/zzlaws_internal_server_b1.FnWaitedFromEmptyCountsAllAndKeepsTheLongest", spec := "fnWaitedFromEmptyCountsAllAndKeepsTheLongest", apart := false }
def FnWaitedFromEmptyCountsAllAndKeepsTheLongestSaid : Prop := fnWaitedFromEmptyCountsAllAndKeepsTheLongestRow.holds Try.pinned (OpenSpec.ofChange fnWaitedFromEmptyCountsAllAndKeepsTheLongestSpec)

/-- ITS FALSE NEIGHBOUR: 'it returns false'. Refute it at one input. -/
def fnWaitedFromEmptyCountsAllAndKeepsTheLongestWrong : ChangeSpec := { name := "fnWaitedFromEmptyCountsAllAndKeepsTheLongest", fn := fun _ => fun
  | [d] => { results := [.lit (.bool false)], args := [d] }
  | _ => none }
def FnWaitedFromEmptyCountsAllAndKeepsTheLongestWrongFalsely : Prop := fnWaitedFromEmptyCountsAllAndKeepsTheLongestRow.holds Try.pinned (OpenSpec.ofChange fnWaitedFromEmptyCountsAllAndKeepsTheLongestWrong)

/-- 'zzlaws_internal_server_b1.FnPartFollowKeepsOrDropsByHistory': WHATEVER THE INPUT: true; the input reads as it did. -/
def fnPartFollowKeepsOrDropsByHistorySpec : ChangeSpec := { name := "fnPartFollowKeepsOrDropsByHistory", fn := fun _ => fun
  | [d1, d2, d3, d4, d5, d6] => { results := [.lit (.bool true)], args := [d1, d2, d3, d4, d5, d6] }
  | _ => none }
def fnPartFollowKeepsOrDropsByHistoryRow : OpenClaim := { program := "qxb6605955a", sum := "67d538a9fba787b9fca568bdcc421450e834664e4de25d934ddfa9ee240ba5af", func := "example.com/freshet/freshet/zzlaws_internal_server_b1.FnPartFollowKeepsOrDropsByHistory", spec := "fnPartFollowKeepsOrDropsByHistory", inPlace := ["(*internal/sync.Mutex).Lock", "internal/race.Disable", "sync/atomic.CompareAndSwapInt32", "internal/race.Enable", "internal/race.Acquire", "(*internal/sync.Mutex).lockSlow", "internal/sync.runtime_canSpin", "internal/sync.runtime_doSpin", "internal/sync.throw", "internal/sync.runtime_nanotime", "internal/sync.runtime_SemacquireMutex", "sync/atomic.AddInt32", "(*internal/sync.Mutex).Unlock", "internal/race.ReleaseMerge", "(*internal/sync.Mutex).unlockSlow", "internal/sync.fatal", "internal/sync.runtime_Semrelease"], apart := false }
def FnPartFollowKeepsOrDropsByHistorySaid : Prop := fnPartFollowKeepsOrDropsByHistoryRow.holds Try.pinned (OpenSpec.ofChange fnPartFollowKeepsOrDropsByHistorySpec)

/-- ITS FALSE NEIGHBOUR: 'it returns false'. Refute it at one input. -/
def fnPartFollowKeepsOrDropsByHistoryWrong : ChangeSpec := { name := "fnPartFollowKeepsOrDropsByHistory", fn := fun _ => fun
  | [d1, d2, d3, d4, d5, d6] => { results := [.lit (.bool false)], args := [d1, d2, d3, d4, d5, d6] }
  | _ => none }
def FnPartFollowKeepsOrDropsByHistoryWrongFalsely : Prop := fnPartFollowKeepsOrDropsByHistoryRow.holds Try.pinned (OpenSpec.ofChange fnPartFollowKeepsOrDropsByHistoryWrong)

/-- 'zzlaws_internal_server_b1.FnPartFollowScriptLastHistoryWinsAndNothingComesBack': WHATEVER THE INPUT: true; the input reads as it did. -/
def fnPartFollowScriptLastHistoryWinsAndNothingComesBackSpec : ChangeSpec := { name := "fnPartFollowScriptLastHistoryWinsAndNothingComesBack", fn := fun _ => fun
  | [d1, d2, d3, d4, d5, d6] => { results := [.lit (.bool true)], args := [d1, d2, d3, d4, d5, d6] }
  | _ => none }
def fnPartFollowScriptLastHistoryWinsAndNothingComesBackRow : OpenClaim := { program := "qxb6605955a", sum := "67d538a9fba787b9fca568bdcc421450e834664e4de25d934ddfa9ee240ba5af", func := "example.com/freshet/freshet/zzlaws_internal_server_b1.FnPartFollowScriptLastHistoryWinsAndNothingComesBack", spec := "fnPartFollowScriptLastHistoryWinsAndNothingComesBack", inPlace := ["(*internal/sync.Mutex).Lock", "internal/race.Disable", "sync/atomic.CompareAndSwapInt32", "internal/race.Enable", "internal/race.Acquire", "(*internal/sync.Mutex).lockSlow", "internal/sync.runtime_canSpin", "internal/sync.runtime_doSpin", "internal/sync.throw", "internal/sync.runtime_nanotime", "internal/sync.runtime_SemacquireMutex", "sync/atomic.AddInt32", "(*internal/sync.Mutex).Unlock", "internal/race.ReleaseMerge", "(*internal/sync.Mutex).unlockSlow", "internal/sync.fatal", "internal/sync.runtime_Semrelease"], apart := false }
def FnPartFollowScriptLastHistoryWinsAndNothingComesBackSaid : Prop := fnPartFollowScriptLastHistoryWinsAndNothingComesBackRow.holds Try.pinned (OpenSpec.ofChange fnPartFollowScriptLastHistoryWinsAndNothingComesBackSpec)

/-- ITS FALSE NEIGHBOUR: 'it returns false'. Refute it at one input. -/
def fnPartFollowScriptLastHistoryWinsAndNothingComesBackWrong : ChangeSpec := { name := "fnPartFollowScriptLastHistoryWinsAndNothingComesBack", fn := fun _ => fun
  | [d1, d2, d3, d4, d5, d6] => { results := [.lit (.bool false)], args := [d1, d2, d3, d4, d5, d6] }
  | _ => none }
def FnPartFollowScriptLastHistoryWinsAndNothingComesBackWrongFalsely : Prop := fnPartFollowScriptLastHistoryWinsAndNothingComesBackRow.holds Try.pinned (OpenSpec.ofChange fnPartFollowScriptLastHistoryWinsAndNothingComesBackWrong)

end Rows
end Go.Proofs.Qxb6605955a
