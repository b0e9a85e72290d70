/-
  No cell of these rows narrows 'for every input' (looked for: loops, veiled, ifaces, maps, wideKeys, modest, calm, conditions, laid).
  DERIVED. THE GIVEN ROWS OF THIS SEAT. 4 by the template 'for every input the law returns true; each argument reads behind the call as it read before'; 0 by the template 'total and deterministic' (their statements: Qxb6605831aTotals.lean).
  GIVEN WITH THE SEED: the statements are not yours to turn. If you find one false, say at which input.
  Laid BY PROGRAM, IN A SANDBOX (cutbox-rows.mjs): the forced cells as the released guide's own fill.sh prints them over the translation 0a3be40e41bf6243… (all of the seat's roots in one cut). By AI agents, Wed Nov 11 2026. No macro, syntax, notation, axiom, sorry.
-/
import Derived.Test.Qxb6605831aChecked
import GoSem.Claim
import GoSem.ClaimJoined
import GoSem.ClaimMapViews
import Derived.JoinedTies
import Derived.KernelRfl
namespace Go.Proofs.Qxb6605831a
/- THE CELL 'sum', in the pinned program and in every row, IS THE sha256 OF THE DUMP (.gsa) THAT Qxb6605831aProg.lean LOADS. Nothing in Lean hashes anything: it is a label: what it is worth is what the hold of that sum in a sandbox is worth. -/
noncomputable def Try.pinned : Pinned := { name := "qxb6605831a", sum := "0a3be40e41bf6243bcf008cd5f47ddf0f47cbce8c71121c4681a638aebe5bc58", checked := Try.checked }
namespace Rows
def none {H : Type} : Left H := { results := [], args := [] }

/-- 'zzlaws_export_b1.FnHandOverHandsTheFilledPageWhole': WHATEVER THE INPUT: true; the input reads as it did. -/
def fnHandOverHandsTheFilledPageWholeSpec : ChangeSpec := { name := "fnHandOverHandsTheFilledPageWhole", fn := fun _ => fun
  | [d1, d2] => { results := [.lit (.bool true)], args := [d1, d2] }
  | _ => none }
def fnHandOverHandsTheFilledPageWholeRow : OpenClaim := { program := "qxb6605831a", sum := "0a3be40e41bf6243bcf008cd5f47ddf0f47cbce8c71121c4681a638aebe5bc58", func := "example.com/pathstamp/pathstamp/zzlaws_export_b1.FnHandOverHandsTheFilledPageWhole", spec := "fnHandOverHandsTheFilledPageWhole", inPlace := ["sync/atomic.StoreInt64"], apart := false }
def FnHandOverHandsTheFilledPageWholeSaid : Prop := fnHandOverHandsTheFilledPageWholeRow.holds Try.pinned (OpenSpec.ofChange fnHandOverHandsTheFilledPageWholeSpec)

/-- ITS FALSE NEIGHBOUR: 'it returns false'. Refute it at one input. -/
def fnHandOverHandsTheFilledPageWholeWrong : ChangeSpec := { name := "fnHandOverHandsTheFilledPageWhole", fn := fun _ => fun
  | [d1, d2] => { results := [.lit (.bool false)], args := [d1, d2] }
  | _ => none }
def FnHandOverHandsTheFilledPageWholeWrongFalsely : Prop := fnHandOverHandsTheFilledPageWholeRow.holds Try.pinned (OpenSpec.ofChange fnHandOverHandsTheFilledPageWholeWrong)

/-- 'zzlaws_export_b1.FnHandOverQueuesPagesInOrder': WHATEVER THE INPUT: true; the input reads as it did. -/
def fnHandOverQueuesPagesInOrderSpec : ChangeSpec := { name := "fnHandOverQueuesPagesInOrder", fn := fun _ => fun
  | [d1, d2] => { results := [.lit (.bool true)], args := [d1, d2] }
  | _ => none }
def fnHandOverQueuesPagesInOrderRow : OpenClaim := { program := "qxb6605831a", sum := "0a3be40e41bf6243bcf008cd5f47ddf0f47cbce8c71121c4681a638aebe5bc58", func := "example.com/pathstamp/pathstamp/zzlaws_export_b1.FnHandOverQueuesPagesInOrder", spec := "fnHandOverQueuesPagesInOrder", inPlace := ["sync/atomic.StoreInt64"], apart := false }
def FnHandOverQueuesPagesInOrderSaid : Prop := fnHandOverQueuesPagesInOrderRow.holds Try.pinned (OpenSpec.ofChange fnHandOverQueuesPagesInOrderSpec)

/-- ITS FALSE NEIGHBOUR: 'it returns false'. Refute it at one input. -/
def fnHandOverQueuesPagesInOrderWrong : ChangeSpec := { name := "fnHandOverQueuesPagesInOrder", fn := fun _ => fun
  | [d1, d2] => { results := [.lit (.bool false)], args := [d1, d2] }
  | _ => none }
def FnHandOverQueuesPagesInOrderWrongFalsely : Prop := fnHandOverQueuesPagesInOrderRow.holds Try.pinned (OpenSpec.ofChange fnHandOverQueuesPagesInOrderWrong)

/-- 'zzlaws_export_b1.FnWrittenCountsFileLinesNotRecordsGiven': WHATEVER THE INPUT: true; the input reads as it did. -/
def fnWrittenCountsFileLinesNotRecordsGivenSpec : ChangeSpec := { name := "fnWrittenCountsFileLinesNotRecordsGiven", fn := fun _ => fun
  | [d1, d2, d3] => { results := [.lit (.bool true)], args := [d1, d2, d3] }
  | _ => none }
def fnWrittenCountsFileLinesNotRecordsGivenRow : OpenClaim := { program := "qxb6605831a", sum := "0a3be40e41bf6243bcf008cd5f47ddf0f47cbce8c71121c4681a638aebe5bc58", func := "example.com/pathstamp/pathstamp/zzlaws_export_b1.FnWrittenCountsFileLinesNotRecordsGiven", spec := "fnWrittenCountsFileLinesNotRecordsGiven", inPlace := ["sync/atomic.StoreInt64", "sync/atomic.LoadInt64"], apart := false }
def FnWrittenCountsFileLinesNotRecordsGivenSaid : Prop := fnWrittenCountsFileLinesNotRecordsGivenRow.holds Try.pinned (OpenSpec.ofChange fnWrittenCountsFileLinesNotRecordsGivenSpec)

/-- ITS FALSE NEIGHBOUR: 'it returns false'. Refute it at one input. -/
def fnWrittenCountsFileLinesNotRecordsGivenWrong : ChangeSpec := { name := "fnWrittenCountsFileLinesNotRecordsGiven", fn := fun _ => fun
  | [d1, d2, d3] => { results := [.lit (.bool false)], args := [d1, d2, d3] }
  | _ => none }
def FnWrittenCountsFileLinesNotRecordsGivenWrongFalsely : Prop := fnWrittenCountsFileLinesNotRecordsGivenRow.holds Try.pinned (OpenSpec.ofChange fnWrittenCountsFileLinesNotRecordsGivenWrong)

/-- 'zzlaws_export_b1.FnWrittenUnmovedByHandOver': WHATEVER THE INPUT: true; the input reads as it did. -/
def fnWrittenUnmovedByHandOverSpec : ChangeSpec := { name := "fnWrittenUnmovedByHandOver", fn := fun _ => fun
  | [d1, d2, d3] => { results := [.lit (.bool true)], args := [d1, d2, d3] }
  | _ => none }
def fnWrittenUnmovedByHandOverRow : OpenClaim := { program := "qxb6605831a", sum := "0a3be40e41bf6243bcf008cd5f47ddf0f47cbce8c71121c4681a638aebe5bc58", func := "example.com/pathstamp/pathstamp/zzlaws_export_b1.FnWrittenUnmovedByHandOver", spec := "fnWrittenUnmovedByHandOver", inPlace := ["sync/atomic.StoreInt64", "sync/atomic.LoadInt64"], apart := false }
def FnWrittenUnmovedByHandOverSaid : Prop := fnWrittenUnmovedByHandOverRow.holds Try.pinned (OpenSpec.ofChange fnWrittenUnmovedByHandOverSpec)

/-- ITS FALSE NEIGHBOUR: 'it returns false'. Refute it at one input. -/
def fnWrittenUnmovedByHandOverWrong : ChangeSpec := { name := "fnWrittenUnmovedByHandOver", fn := fun _ => fun
  | [d1, d2, d3] => { results := [.lit (.bool false)], args := [d1, d2, d3] }
  | _ => none }
def FnWrittenUnmovedByHandOverWrongFalsely : Prop := fnWrittenUnmovedByHandOverRow.holds Try.pinned (OpenSpec.ofChange fnWrittenUnmovedByHandOverWrong)

end Rows
end Go.Proofs.Qxb6605831a
