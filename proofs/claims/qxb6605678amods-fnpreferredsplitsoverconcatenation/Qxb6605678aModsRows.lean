/-
  No cell of these rows narrows 'for every input' (looked for: loops, veiled, ifaces, maps, wideKeys, modest, calm, conditions, laid).
  DERIVED. THE GIVEN ROWS OF THIS SEAT. 2 by the template 'for every input the law returns true; each argument reads behind the call as it read before'; 0 by the template 'total and deterministic' (their statements: Qxb6605678aModsTotals.lean).
  GIVEN WITH THE SEED: the statements are not yours to turn. If you find one false, say at which input.
  Laid BY PROGRAM, IN A SANDBOX (cutbox-rows.mjs): the forced cells as the released guide's own fill.sh prints them over the translation ac88ee3aca629ee6… (all of the seat's roots in one cut). By AI agents, Wed Nov 11 2026. No macro, syntax, notation, axiom, sorry.
-/
import Derived.Test.Qxb6605678aModsChecked
import GoSem.Claim
import GoSem.ClaimJoined
import GoSem.ClaimMapViews
import Derived.JoinedTies
import Derived.KernelRfl
namespace Go.Proofs.Qxb6605678aMods
/- THE CELL 'sum', in the pinned program and in every row, IS THE sha256 OF THE DUMP (.gsa) THAT Qxb6605678aModsProg.lean LOADS. Nothing in Lean hashes anything: it is a label: what it is worth is what the hold of that sum in a sandbox is worth. -/
noncomputable def Trym.pinned : Pinned := { name := "qxb6605678amods", sum := "ac88ee3aca629ee699ba28280ae5238070161ecb32cd46177a556f4d0753e09b", checked := Trym.checked }
namespace Rows
def none {H : Type} : Left H := { results := [], args := [] }

/-- 'zzlaws_root_b1.FnPreferredIsFirstFitMaximum': WHATEVER THE INPUT: true; the input reads as it did. -/
def fnPreferredIsFirstFitMaximumSpec : ChangeSpec := { name := "fnPreferredIsFirstFitMaximum", fn := fun _ => fun
  | [d] => { results := [.lit (.bool true)], args := [d] }
  | _ => none }
def fnPreferredIsFirstFitMaximumRow : OpenClaim := { program := "qxb6605678amods", sum := "ac88ee3aca629ee699ba28280ae5238070161ecb32cd46177a556f4d0753e09b", func := "example.com/skewline/skewline/zzlaws_root_b1.FnPreferredIsFirstFitMaximum", spec := "fnPreferredIsFirstFitMaximum", make := .lifted ["publicsums"], apart := false }
def FnPreferredIsFirstFitMaximumSaid : Prop := fnPreferredIsFirstFitMaximumRow.holds Trym.pinned (OpenSpec.ofChange fnPreferredIsFirstFitMaximumSpec)

/-- ITS FALSE NEIGHBOUR: 'it returns false'. Refute it at one input. -/
def fnPreferredIsFirstFitMaximumWrong : ChangeSpec := { name := "fnPreferredIsFirstFitMaximum", fn := fun _ => fun
  | [d] => { results := [.lit (.bool false)], args := [d] }
  | _ => none }
def FnPreferredIsFirstFitMaximumWrongFalsely : Prop := fnPreferredIsFirstFitMaximumRow.holds Trym.pinned (OpenSpec.ofChange fnPreferredIsFirstFitMaximumWrong)

/-- 'zzlaws_root_b1.FnPreferredSplitsOverConcatenation': WHATEVER THE INPUT: true; the input reads as it did. -/
def fnPreferredSplitsOverConcatenationSpec : ChangeSpec := { name := "fnPreferredSplitsOverConcatenation", fn := fun _ => fun
  | [d1, d2] => { results := [.lit (.bool true)], args := [d1, d2] }
  | _ => none }
def fnPreferredSplitsOverConcatenationRow : OpenClaim := { program := "qxb6605678amods", sum := "ac88ee3aca629ee699ba28280ae5238070161ecb32cd46177a556f4d0753e09b", func := "example.com/skewline/skewline/zzlaws_root_b1.FnPreferredSplitsOverConcatenation", spec := "fnPreferredSplitsOverConcatenation", make := .lifted ["publicsums"], apart := false }
def FnPreferredSplitsOverConcatenationSaid : Prop := fnPreferredSplitsOverConcatenationRow.holds Trym.pinned (OpenSpec.ofChange fnPreferredSplitsOverConcatenationSpec)

/-- ITS FALSE NEIGHBOUR: 'it returns false'. Refute it at one input. -/
def fnPreferredSplitsOverConcatenationWrong : ChangeSpec := { name := "fnPreferredSplitsOverConcatenation", fn := fun _ => fun
  | [d1, d2] => { results := [.lit (.bool false)], args := [d1, d2] }
  | _ => none }
def FnPreferredSplitsOverConcatenationWrongFalsely : Prop := fnPreferredSplitsOverConcatenationRow.holds Trym.pinned (OpenSpec.ofChange fnPreferredSplitsOverConcatenationWrong)

end Rows
end Go.Proofs.Qxb6605678aMods
