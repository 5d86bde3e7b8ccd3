/-
  No cell of these rows narrows 'for every input' (looked for: loops, veiled, ifaces, maps, wideKeys, modest, calm, conditions, laid).
  DERIVED. THE GIVEN ROWS OF THIS SEAT. 4 by the template 'for every input the law returns true; each argument reads behind the call as it read before'; 0 by the template 'total and deterministic' (their statements: Qxb6618960aModsTotals.lean).
  GIVEN WITH THE SEED: the statements are not yours to turn. If you find one false, say at which input.
  Laid BY PROGRAM, IN A SANDBOX (cutbox-rows.mjs): the forced cells as the released guide's own fill.sh prints them over the translation 43840dcbfa104360… (all of the seat's roots in one cut). By AI agents, Wed Nov 11 2026. No macro, syntax, notation, axiom, sorry.
-/
import Derived.Test.Qxb6618960aModsChecked
import GoSem.Claim
import GoSem.ClaimJoined
import GoSem.ClaimMapViews
import Derived.JoinedTies
import Derived.KernelRfl
namespace Go.Proofs.Qxb6618960aMods
/- THE CELL 'sum', in the pinned program and in every row, IS THE sha256 OF THE DUMP (.gsa) THAT Qxb6618960aModsProg.lean LOADS. Nothing in Lean hashes anything: it is a label: what it is worth is what the hold of that sum in a sandbox is worth. -/
noncomputable def Trym.pinned : Pinned := { name := "qxb6618960amods", sum := "43840dcbfa10436017e94a05ccd3e666fc178504df097b482fc450a6435abd38", checked := Trym.checked }
namespace Rows
def none {H : Type} : Left H := { results := [], args := [] }

/-- 'zzlaws_wire_b1.FnPlainReaderKeepsItsOwnCopy': WHATEVER THE INPUT: true; the input reads as it did. -/
def fnPlainReaderKeepsItsOwnCopySpec : ChangeSpec := { name := "fnPlainReaderKeepsItsOwnCopy", fn := fun _ => fun
  | [d] => { results := [.lit (.bool true)], args := [d] }
  | _ => none }
def fnPlainReaderKeepsItsOwnCopyRow : OpenClaim := { program := "qxb6618960amods", sum := "43840dcbfa10436017e94a05ccd3e666fc178504df097b482fc450a6435abd38", func := "example.com/soukmesh/soukmesh/zzlaws_wire_b1.FnPlainReaderKeepsItsOwnCopy", spec := "fnPlainReaderKeepsItsOwnCopy", make := .lifted ["publicsums"], apart := false }
def FnPlainReaderKeepsItsOwnCopySaid : Prop := fnPlainReaderKeepsItsOwnCopyRow.holds Trym.pinned (OpenSpec.ofChange fnPlainReaderKeepsItsOwnCopySpec)

/-- ITS FALSE NEIGHBOUR: 'it returns false'. Refute it at one input. -/
def fnPlainReaderKeepsItsOwnCopyWrong : ChangeSpec := { name := "fnPlainReaderKeepsItsOwnCopy", fn := fun _ => fun
  | [d] => { results := [.lit (.bool false)], args := [d] }
  | _ => none }
def FnPlainReaderKeepsItsOwnCopyWrongFalsely : Prop := fnPlainReaderKeepsItsOwnCopyRow.holds Trym.pinned (OpenSpec.ofChange fnPlainReaderKeepsItsOwnCopyWrong)

/-- 'zzlaws_wire_b1.FnBudgetYieldingTakesLatestFromTheFullestUntilShortIsMet': WHATEVER THE INPUT: true; the input reads as it did. -/
def fnBudgetYieldingTakesLatestFromTheFullestUntilShortIsMetSpec : ChangeSpec := { name := "fnBudgetYieldingTakesLatestFromTheFullestUntilShortIsMet", fn := fun _ => fun
  | [d1, d2, d3, d4] => { results := [.lit (.bool true)], args := [d1, d2, d3, d4] }
  | _ => none }
def fnBudgetYieldingTakesLatestFromTheFullestUntilShortIsMetRow : OpenClaim := { program := "qxb6618960amods", sum := "43840dcbfa10436017e94a05ccd3e666fc178504df097b482fc450a6435abd38", func := "example.com/soukmesh/soukmesh/zzlaws_wire_b1.FnBudgetYieldingTakesLatestFromTheFullestUntilShortIsMet", spec := "fnBudgetYieldingTakesLatestFromTheFullestUntilShortIsMet", make := .lifted ["publicsums"], apart := false }
def FnBudgetYieldingTakesLatestFromTheFullestUntilShortIsMetSaid : Prop := fnBudgetYieldingTakesLatestFromTheFullestUntilShortIsMetRow.holds Trym.pinned (OpenSpec.ofChange fnBudgetYieldingTakesLatestFromTheFullestUntilShortIsMetSpec)

/-- ITS FALSE NEIGHBOUR: 'it returns false'. Refute it at one input. -/
def fnBudgetYieldingTakesLatestFromTheFullestUntilShortIsMetWrong : ChangeSpec := { name := "fnBudgetYieldingTakesLatestFromTheFullestUntilShortIsMet", fn := fun _ => fun
  | [d1, d2, d3, d4] => { results := [.lit (.bool false)], args := [d1, d2, d3, d4] }
  | _ => none }
def FnBudgetYieldingTakesLatestFromTheFullestUntilShortIsMetWrongFalsely : Prop := fnBudgetYieldingTakesLatestFromTheFullestUntilShortIsMetRow.holds Trym.pinned (OpenSpec.ofChange fnBudgetYieldingTakesLatestFromTheFullestUntilShortIsMetWrong)

/-- 'zzlaws_wire_b1.FnBudgetYieldingMeetsExactlyWhatWaitersAboveMineHold': WHATEVER THE INPUT: true; the input reads as it did. -/
def fnBudgetYieldingMeetsExactlyWhatWaitersAboveMineHoldSpec : ChangeSpec := { name := "fnBudgetYieldingMeetsExactlyWhatWaitersAboveMineHold", fn := fun _ => fun
  | [d1, d2, d3] => { results := [.lit (.bool true)], args := [d1, d2, d3] }
  | _ => none }
def fnBudgetYieldingMeetsExactlyWhatWaitersAboveMineHoldRow : OpenClaim := { program := "qxb6618960amods", sum := "43840dcbfa10436017e94a05ccd3e666fc178504df097b482fc450a6435abd38", func := "example.com/soukmesh/soukmesh/zzlaws_wire_b1.FnBudgetYieldingMeetsExactlyWhatWaitersAboveMineHold", spec := "fnBudgetYieldingMeetsExactlyWhatWaitersAboveMineHold", make := .lifted ["publicsums"], apart := false }
def FnBudgetYieldingMeetsExactlyWhatWaitersAboveMineHoldSaid : Prop := fnBudgetYieldingMeetsExactlyWhatWaitersAboveMineHoldRow.holds Trym.pinned (OpenSpec.ofChange fnBudgetYieldingMeetsExactlyWhatWaitersAboveMineHoldSpec)

/-- ITS FALSE NEIGHBOUR: 'it returns false'. Refute it at one input. -/
def fnBudgetYieldingMeetsExactlyWhatWaitersAboveMineHoldWrong : ChangeSpec := { name := "fnBudgetYieldingMeetsExactlyWhatWaitersAboveMineHold", fn := fun _ => fun
  | [d1, d2, d3] => { results := [.lit (.bool false)], args := [d1, d2, d3] }
  | _ => none }
def FnBudgetYieldingMeetsExactlyWhatWaitersAboveMineHoldWrongFalsely : Prop := fnBudgetYieldingMeetsExactlyWhatWaitersAboveMineHoldRow.holds Trym.pinned (OpenSpec.ofChange fnBudgetYieldingMeetsExactlyWhatWaitersAboveMineHoldWrong)

/-- 'zzlaws_wire_b1.FnCountedReaderReadsAllAndCountsEach': WHATEVER THE INPUT: true; the input reads as it did. -/
def fnCountedReaderReadsAllAndCountsEachSpec : ChangeSpec := { name := "fnCountedReaderReadsAllAndCountsEach", fn := fun _ => fun
  | [d1, d2, d3] => { results := [.lit (.bool true)], args := [d1, d2, d3] }
  | _ => none }
def fnCountedReaderReadsAllAndCountsEachRow : OpenClaim := { program := "qxb6618960amods", sum := "43840dcbfa10436017e94a05ccd3e666fc178504df097b482fc450a6435abd38", func := "example.com/soukmesh/soukmesh/zzlaws_wire_b1.FnCountedReaderReadsAllAndCountsEach", spec := "fnCountedReaderReadsAllAndCountsEach", inPlace := ["sync/atomic.StoreUint64", "sync/atomic.AddUint64", "sync/atomic.LoadUint64"], unfollowed := true, recurses := true, make := .lifted ["publicsums"], apart := false }
def FnCountedReaderReadsAllAndCountsEachSaid : Prop := fnCountedReaderReadsAllAndCountsEachRow.holds Trym.pinned (OpenSpec.ofChange fnCountedReaderReadsAllAndCountsEachSpec)

/-- ITS FALSE NEIGHBOUR: 'it returns false'. Refute it at one input. -/
def fnCountedReaderReadsAllAndCountsEachWrong : ChangeSpec := { name := "fnCountedReaderReadsAllAndCountsEach", fn := fun _ => fun
  | [d1, d2, d3] => { results := [.lit (.bool false)], args := [d1, d2, d3] }
  | _ => none }
def FnCountedReaderReadsAllAndCountsEachWrongFalsely : Prop := fnCountedReaderReadsAllAndCountsEachRow.holds Trym.pinned (OpenSpec.ofChange fnCountedReaderReadsAllAndCountsEachWrong)

end Rows
end Go.Proofs.Qxb6618960aMods
