import Derived.Test.Qxb6605678aModsRows
import Derived.WalkKit
import Derived.ProofKit
import Derived.OpenShut
import Derived.BigQuiet
import Derived.Deep.QuietTactic
import Derived.Deep.Slices
import Derived.WalkSmall
namespace Go.Proofs.Qxb6605678aMods.W
open Go.ChangeShapes Go.WideShapes Go.ChangeAt Go.RowKit

/-- It ends with some bool. -/
def AnyBool (e : Ending) : Prop := ∃ b, e = .returned (.bool b)
/-- It ends with some int. -/
def AnyInt (e : Ending) : Prop := ∃ z, e = .returned (.int .i64 z)

/-- A row of verdicts as the walk reads it: five cells an element. -/
structure VRow (w : World) (ao : Option Addr) (len : Nat) (N R : Nat → ByteArray) (F S : Nat → Bool) (Z : Nat → Int) : Prop where
  le : len ≤ 9223372036854775807
  ok : ∀ i, i < len → ∃ b off, ao = some ⟨b, off, none⟩ ∧ w.cell? ⟨b, off + i * 5, none⟩ = some (.string (N i)) ∧ w.cell? ⟨b, off + i * 5 + 1, none⟩ = some (.bool (F i)) ∧
    w.cell? ⟨b, off + i * 5 + 2, none⟩ = some (.string (R i)) ∧ w.cell? ⟨b, off + i * 5 + 3, none⟩ = some (.bool (S i)) ∧ w.cell? ⟨b, off + i * 5 + 4, none⟩ = some (.int .i64 (Z i)) ∧
    b < w.heap.size ∧ (N i).size ≤ 9223372036854775807 ∧ (R i).size ≤ 9223372036854775807

theorem VRow.below {w w' : World} {ao : Option Addr} {len : Nat} {N R : Nat → ByteArray} {F S : Nat → Bool} {Z : Nat → Int} (h : VRow w ao len N R F S Z) (hb : Below w.heap.size w w') : VRow w' ao len N R F S Z := by
  refine ⟨h.le, fun i hi => ?_⟩
  obtain ⟨b, off, rfl, c0, c1, c2, c3, c4, hlt, hs⟩ := h.ok i hi
  exact ⟨b, off, rfl, (hb.cell hlt).trans c0, (hb.cell hlt).trans c1, (hb.cell hlt).trans c2, (hb.cell hlt).trans c3, (hb.cell hlt).trans c4, Nat.lt_of_lt_of_le hlt hb.size, hs⟩

set_option maxHeartbeats 1000000 in
theorem bytes1_any {w : World} {ao : Option Addr} {len cap : Nat} {N R : Nat → ByteArray} {F S : Nat → Bool} {Z : Nat → Int} (hv : VRow w ao len N R F S Z) :
    Calls Trym.prog 5 #[.slice ao len cap] w fun e w' => AnyBool e ∧ w' = w := by
  have hle := hv.le
  by_cases hl : 1048576 < len
  · go_enter Trym.func5, Trym.ntmps5
    go_wp2
    go_ret
    exact ⟨⟨_, rfl⟩, rfl⟩
  · go_enter Trym.func5, Trym.ntmps5
    go_wp2
    go_loop [3, 4] (fun n i => ∃ (k : Nat) (z : Int), k ≤ len ∧ i = .int .i64 k ∧ n = .int .i64 z) (fun _ i => len - (intOf i).toNat)
    case atStart => exact ⟨0, _, Nat.zero_le _, rfl, rfl⟩
    case round =>
      obtain ⟨k, z, hk, rfl, rfl⟩ := hrel
      by_cases hlt : k < len
      · obtain ⟨b, off, rfl, c0, c1, c2, c3, c4, hb, h1, h2⟩ := hv.ok k hlt
        go_wp2
        all_goals first
          | (go_ret; exact ⟨⟨_, rfl⟩, rfl⟩)
          | (go_round
             case rel => exact ⟨k + 1, _, by omega, by go_num, rfl⟩
             case measure => simp [intOf]; omega)
      · go_wp2
        go_ret
        exact ⟨⟨_, rfl⟩, rfl⟩

set_option maxHeartbeats 1000000 in
theorem vbytes_any {w : World} {ao : Option Addr} {len cap : Nat} {N R : Nat → ByteArray} {F S : Nat → Bool} {Z : Nat → Int} (hv : VRow w ao len N R F S Z) :
    Calls Trym.prog 6 #[.slice ao len cap] w fun e w' => AnyInt e ∧ Below w.heap.size w w' := by
  have hle := hv.le
  go_enter Trym.func6, Trym.ntmps6
  go_wp2
  go_loopw [3, 4] (fun n i wr => ∃ (k : Nat) (z : Int), k ≤ len ∧ i = .int .i64 k ∧ n = .int .i64 z ∧ Below w.heap.size w wr) (fun _ i _ => len - (intOf i).toNat)
  case atStart => exact ⟨0, _, Nat.zero_le _, rfl, rfl, Below.refl _ _⟩
  case round =>
    obtain ⟨k, z, hk, rfl, rfl, hbr⟩ := hrel
    have hv' := hv.below hbr
    by_cases hlt : k < len
    · obtain ⟨b, off, rfl, c0, c1, c2, c3, c4, hb, h1, h2⟩ := hv'.ok k hlt
      have b0 : (0 : Int) ≤ k := by omega
      have b1 : (k : Int) < len := by omega
      by_cases g1 : 1048576 < (N k).size
      · go_wp2
        go_ret
        exact ⟨⟨_, rfl⟩, hbr⟩
      · by_cases g2 : 1048576 < (R k).size
        · go_wp2
          go_ret
          exact ⟨⟨_, rfl⟩, hbr⟩
        · go_wp2
          go_quiet (fail)
          go_wp2
          all_goals first
            | (go_ret; exact ⟨⟨_, rfl⟩, below_drewN hbr _⟩)
            | (go_roundw
               case rel => exact ⟨k + 1, _, by omega, by go_num, rfl, below_drewN hbr _⟩
               case measure => simp [intOf]; omega)
    · go_wp2
      go_ret
      exact ⟨⟨_, rfl⟩, hbr⟩
end Go.Proofs.Qxb6605678aMods.W
