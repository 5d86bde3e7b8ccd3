/-
  No cell of these rows narrows 'for every input' (looked for: loops, veiled, ifaces, maps, wideKeys, modest, calm, conditions, laid).
  DERIVED. THE GIVEN ROWS OF THIS SEAT. 2 by the template 'for every input the law returns true; each argument reads behind the call as it read before'; 0 by the template 'total and deterministic' (their statements: Qxb6605744aModsTotals.lean).
  GIVEN WITH THE SEED: the statements are not yours to turn. If you find one false, say at which input.
  Laid BY PROGRAM, IN A SANDBOX (cutbox-rows.mjs): the forced cells as the released guide's own fill.sh prints them over the translation 2897429edfa79bb2… (all of the seat's roots in one cut). By AI agents, Wed Nov 11 2026. No macro, syntax, notation, axiom, sorry.
-/
import Derived.Test.Qxb6605744aModsChecked
import GoSem.Claim
import GoSem.ClaimJoined
import GoSem.ClaimMapViews
import Derived.JoinedTies
import Derived.KernelRfl
namespace Go.Proofs.Qxb6605744aMods
/- THE CELL 'sum', in the pinned program and in every row, IS THE sha256 OF THE DUMP (.gsa) THAT Qxb6605744aModsProg.lean LOADS. Nothing in Lean hashes anything: it is a label: what it is worth is what the hold of that sum in a sandbox is worth. -/
noncomputable def Trym.pinned : Pinned := { name := "qxb6605744amods", sum := "2897429edfa79bb2f90b0b0d4875cc2441bd5abfa6ca3a93e876f7d1a3daf5a9", checked := Trym.checked }
namespace Rows
def none {H : Type} : Left H := { results := [], args := [] }

/-- 'zzlaws_wire_b1.FnTTLReadsTheTTLField': WHATEVER THE INPUT: true; the input reads as it did. -/
def fnTTLReadsTheTTLFieldSpec : ChangeSpec := { name := "fnTTLReadsTheTTLField", fn := fun _ => fun
  | [d1, d2, d3, d4, d5] => { results := [.lit (.bool true)], args := [d1, d2, d3, d4, d5] }
  | _ => none }
def fnTTLReadsTheTTLFieldRow : OpenClaim := { program := "qxb6605744amods", sum := "2897429edfa79bb2f90b0b0d4875cc2441bd5abfa6ca3a93e876f7d1a3daf5a9", func := "example.com/clearfault/clearfault/zzlaws_wire_b1.FnTTLReadsTheTTLField", spec := "fnTTLReadsTheTTLField", make := .lifted ["publicsums"], apart := false }
def FnTTLReadsTheTTLFieldSaid : Prop := fnTTLReadsTheTTLFieldRow.holds Trym.pinned (OpenSpec.ofChange fnTTLReadsTheTTLFieldSpec)

/-- ITS FALSE NEIGHBOUR: 'it returns false'. Refute it at one input. -/
def fnTTLReadsTheTTLFieldWrong : ChangeSpec := { name := "fnTTLReadsTheTTLField", fn := fun _ => fun
  | [d1, d2, d3, d4, d5] => { results := [.lit (.bool false)], args := [d1, d2, d3, d4, d5] }
  | _ => none }
def FnTTLReadsTheTTLFieldWrongFalsely : Prop := fnTTLReadsTheTTLFieldRow.holds Trym.pinned (OpenSpec.ofChange fnTTLReadsTheTTLFieldWrong)

/-- 'zzlaws_wire_b1.FnDataPlusRDLengthIsEnd': WHATEVER THE INPUT: true; the input reads as it did. -/
def fnDataPlusRDLengthIsEndSpec : ChangeSpec := { name := "fnDataPlusRDLengthIsEnd", fn := fun _ => fun
  | [d1, d2, d3, d4, d5] => { results := [.lit (.bool true)], args := [d1, d2, d3, d4, d5] }
  | _ => none }
def fnDataPlusRDLengthIsEndRow : OpenClaim := { program := "qxb6605744amods", sum := "2897429edfa79bb2f90b0b0d4875cc2441bd5abfa6ca3a93e876f7d1a3daf5a9", func := "example.com/clearfault/clearfault/zzlaws_wire_b1.FnDataPlusRDLengthIsEnd", spec := "fnDataPlusRDLengthIsEnd", make := .lifted ["publicsums"], apart := false }
def FnDataPlusRDLengthIsEndSaid : Prop := fnDataPlusRDLengthIsEndRow.holds Trym.pinned (OpenSpec.ofChange fnDataPlusRDLengthIsEndSpec)

/-- ITS FALSE NEIGHBOUR: 'it returns false'. Refute it at one input. -/
def fnDataPlusRDLengthIsEndWrong : ChangeSpec := { name := "fnDataPlusRDLengthIsEnd", fn := fun _ => fun
  | [d1, d2, d3, d4, d5] => { results := [.lit (.bool false)], args := [d1, d2, d3, d4, d5] }
  | _ => none }
def FnDataPlusRDLengthIsEndWrongFalsely : Prop := fnDataPlusRDLengthIsEndRow.holds Trym.pinned (OpenSpec.ofChange fnDataPlusRDLengthIsEndWrong)

end Rows
end Go.Proofs.Qxb6605744aMods
