/-
  No cell of these rows narrows 'for every input' (looked for: loops, veiled, ifaces, maps, wideKeys, modest, calm, conditions, laid).
  DERIVED. THE GIVEN ROWS OF THIS SEAT. 4 by the template 'for every input the law returns true; each argument reads behind the call as it read before'; 0 by the template 'total and deterministic' (their statements: Qxb6606007aModsTotals.lean).
  GIVEN WITH THE SEED: the statements are not yours to turn. If you find one false, say at which input.
  Laid BY PROGRAM, IN A SANDBOX (cutbox-rows.mjs): the forced cells as the released guide's own fill.sh prints them over the translation 0f93c3eea191181d… (all of the seat's roots in one cut). By AI agents, Wed Nov 11 2026. No macro, syntax, notation, axiom, sorry.
-/
import Derived.Test.Qxb6606007aModsChecked
import GoSem.Claim
import GoSem.ClaimJoined
import GoSem.ClaimMapViews
import Derived.JoinedTies
import Derived.KernelRfl
namespace Go.Proofs.Qxb6606007aMods
/- THE CELL 'sum', in the pinned program and in every row, IS THE sha256 OF THE DUMP (.gsa) THAT Qxb6606007aModsProg.lean LOADS. Nothing in Lean hashes anything: it is a label: what it is worth is what the hold of that sum in a sandbox is worth. -/
noncomputable def Trym.pinned : Pinned := { name := "qxb6606007amods", sum := "0f93c3eea191181d0367a1c3a8c6abedaf7665902d3778d5d8b864ccfee2a789", checked := Trym.checked }
namespace Rows
def none {H : Type} : Left H := { results := [], args := [] }

/-- 'zzlaws_encryption_b1.FnKeysEqualSameFirstKeyForEveryPrefix': WHATEVER THE INPUT: true; the input reads as it did. -/
def fnKeysEqualSameFirstKeyForEveryPrefixSpec : ChangeSpec := { name := "fnKeysEqualSameFirstKeyForEveryPrefix", fn := fun _ => fun
  | [d1, d2, d3, d4, d5, d6] => { results := [.lit (.bool true)], args := [d1, d2, d3, d4, d5, d6] }
  | _ => none }
def fnKeysEqualSameFirstKeyForEveryPrefixRow : OpenClaim := { program := "qxb6606007amods", sum := "0f93c3eea191181d0367a1c3a8c6abedaf7665902d3778d5d8b864ccfee2a789", func := "example.com/pagetide/pagetide/zzlaws_encryption_b1.FnKeysEqualSameFirstKeyForEveryPrefix", spec := "fnKeysEqualSameFirstKeyForEveryPrefix", make := .lifted ["publicsums"], apart := false }
def FnKeysEqualSameFirstKeyForEveryPrefixSaid : Prop := fnKeysEqualSameFirstKeyForEveryPrefixRow.holds Trym.pinned (OpenSpec.ofChange fnKeysEqualSameFirstKeyForEveryPrefixSpec)

/-- ITS FALSE NEIGHBOUR: 'it returns false'. Refute it at one input. -/
def fnKeysEqualSameFirstKeyForEveryPrefixWrong : ChangeSpec := { name := "fnKeysEqualSameFirstKeyForEveryPrefix", fn := fun _ => fun
  | [d1, d2, d3, d4, d5, d6] => { results := [.lit (.bool false)], args := [d1, d2, d3, d4, d5, d6] }
  | _ => none }
def FnKeysEqualSameFirstKeyForEveryPrefixWrongFalsely : Prop := fnKeysEqualSameFirstKeyForEveryPrefixRow.holds Trym.pinned (OpenSpec.ofChange fnKeysEqualSameFirstKeyForEveryPrefixWrong)

/-- 'zzlaws_encryption_b1.FnKeysEqualLaterKeyOfAHeldPrefixChangesNothing': WHATEVER THE INPUT: true; the input reads as it did. -/
def fnKeysEqualLaterKeyOfAHeldPrefixChangesNothingSpec : ChangeSpec := { name := "fnKeysEqualLaterKeyOfAHeldPrefixChangesNothing", fn := fun _ => fun
  | [d1, d2, d3] => { results := [.lit (.bool true)], args := [d1, d2, d3] }
  | _ => none }
def fnKeysEqualLaterKeyOfAHeldPrefixChangesNothingRow : OpenClaim := { program := "qxb6606007amods", sum := "0f93c3eea191181d0367a1c3a8c6abedaf7665902d3778d5d8b864ccfee2a789", func := "example.com/pagetide/pagetide/zzlaws_encryption_b1.FnKeysEqualLaterKeyOfAHeldPrefixChangesNothing", spec := "fnKeysEqualLaterKeyOfAHeldPrefixChangesNothing", make := .lifted ["publicsums"], apart := false }
def FnKeysEqualLaterKeyOfAHeldPrefixChangesNothingSaid : Prop := fnKeysEqualLaterKeyOfAHeldPrefixChangesNothingRow.holds Trym.pinned (OpenSpec.ofChange fnKeysEqualLaterKeyOfAHeldPrefixChangesNothingSpec)

/-- ITS FALSE NEIGHBOUR: 'it returns false'. Refute it at one input. -/
def fnKeysEqualLaterKeyOfAHeldPrefixChangesNothingWrong : ChangeSpec := { name := "fnKeysEqualLaterKeyOfAHeldPrefixChangesNothing", fn := fun _ => fun
  | [d1, d2, d3] => { results := [.lit (.bool false)], args := [d1, d2, d3] }
  | _ => none }
def FnKeysEqualLaterKeyOfAHeldPrefixChangesNothingWrongFalsely : Prop := fnKeysEqualLaterKeyOfAHeldPrefixChangesNothingRow.holds Trym.pinned (OpenSpec.ofChange fnKeysEqualLaterKeyOfAHeldPrefixChangesNothingWrong)

/-- 'zzlaws_encryption_b1.FnConfigForFirstEntryThatNamesTheResource': WHATEVER THE INPUT: true; the input reads as it did. -/
def fnConfigForFirstEntryThatNamesTheResourceSpec : ChangeSpec := { name := "fnConfigForFirstEntryThatNamesTheResource", fn := fun _ => fun
  | [d1, d2] => { results := [.lit (.bool true)], args := [d1, d2] }
  | _ => none }
def fnConfigForFirstEntryThatNamesTheResourceRow : OpenClaim := { program := "qxb6606007amods", sum := "0f93c3eea191181d0367a1c3a8c6abedaf7665902d3778d5d8b864ccfee2a789", func := "example.com/pagetide/pagetide/zzlaws_encryption_b1.FnConfigForFirstEntryThatNamesTheResource", spec := "fnConfigForFirstEntryThatNamesTheResource", inPlace := ["internal/bytealg.IndexByteString", "internal/bytealg.IndexString"], named := ["internal/bytealg.MaxLen"], make := .lifted ["publicsums"], apart := false }
def FnConfigForFirstEntryThatNamesTheResourceSaid : Prop := fnConfigForFirstEntryThatNamesTheResourceRow.holds Trym.pinned (OpenSpec.ofChange fnConfigForFirstEntryThatNamesTheResourceSpec)

/-- ITS FALSE NEIGHBOUR: 'it returns false'. Refute it at one input. -/
def fnConfigForFirstEntryThatNamesTheResourceWrong : ChangeSpec := { name := "fnConfigForFirstEntryThatNamesTheResource", fn := fun _ => fun
  | [d1, d2] => { results := [.lit (.bool false)], args := [d1, d2] }
  | _ => none }
def FnConfigForFirstEntryThatNamesTheResourceWrongFalsely : Prop := fnConfigForFirstEntryThatNamesTheResourceRow.holds Trym.pinned (OpenSpec.ofChange fnConfigForFirstEntryThatNamesTheResourceWrong)

/-- 'zzlaws_encryption_b1.FnConfigForCatchAllAppendedOnlyFillsTheGaps': WHATEVER THE INPUT: true; the input reads as it did. -/
def fnConfigForCatchAllAppendedOnlyFillsTheGapsSpec : ChangeSpec := { name := "fnConfigForCatchAllAppendedOnlyFillsTheGaps", fn := fun _ => fun
  | [d1, d2] => { results := [.lit (.bool true)], args := [d1, d2] }
  | _ => none }
def fnConfigForCatchAllAppendedOnlyFillsTheGapsRow : OpenClaim := { program := "qxb6606007amods", sum := "0f93c3eea191181d0367a1c3a8c6abedaf7665902d3778d5d8b864ccfee2a789", func := "example.com/pagetide/pagetide/zzlaws_encryption_b1.FnConfigForCatchAllAppendedOnlyFillsTheGaps", spec := "fnConfigForCatchAllAppendedOnlyFillsTheGaps", inPlace := ["internal/bytealg.IndexByteString", "internal/bytealg.IndexString"], named := ["internal/bytealg.MaxLen"], make := .lifted ["publicsums"], apart := false }
def FnConfigForCatchAllAppendedOnlyFillsTheGapsSaid : Prop := fnConfigForCatchAllAppendedOnlyFillsTheGapsRow.holds Trym.pinned (OpenSpec.ofChange fnConfigForCatchAllAppendedOnlyFillsTheGapsSpec)

/-- ITS FALSE NEIGHBOUR: 'it returns false'. Refute it at one input. -/
def fnConfigForCatchAllAppendedOnlyFillsTheGapsWrong : ChangeSpec := { name := "fnConfigForCatchAllAppendedOnlyFillsTheGaps", fn := fun _ => fun
  | [d1, d2] => { results := [.lit (.bool false)], args := [d1, d2] }
  | _ => none }
def FnConfigForCatchAllAppendedOnlyFillsTheGapsWrongFalsely : Prop := fnConfigForCatchAllAppendedOnlyFillsTheGapsRow.holds Trym.pinned (OpenSpec.ofChange fnConfigForCatchAllAppendedOnlyFillsTheGapsWrong)

end Rows
end Go.Proofs.Qxb6606007aMods
