import Derived.Test.Qxb6618960aModsRows
import Derived.WalkKit
import Derived.ProofKit
import Derived.OpenShut
import Derived.BigQuiet
import Derived.Deep.QuietTactic
import Derived.Deep.Slices
import Derived.Deep.RegionWith
import Derived.WalkSmall
import Derived.WalkSpells
import Derived.WalkLawsBesides
import Derived.OneCell
namespace Go.Proofs.Qxb6618960aMods.W
open Go.ChangeShapes Go.WideShapes Go.ChangeAt Go.RowKit

/-- It ends with some bool. -/
def AnyBool (e : Ending) : Prop := ∃ b, e = .returned (.bool b)

/-- A row of integers as the walk reads it. -/
structure IRow (w : World) (ao : Option Addr) (n : Nat) (X : Nat → Int) : Prop where
  le : n ≤ 9223372036854775807
  ok : ∀ i, i < n → ∃ b off, ao = some ⟨b, off, none⟩ ∧ w.cell? ⟨b, off + i, none⟩ = some (.int .i64 (X i)) ∧ b < w.heap.size

theorem IRow.below {w w' : World} {ao : Option Addr} {n : Nat} {X : Nat → Int} (h : IRow w ao n X) (hb : Below w.heap.size w w') : IRow w' ao n X := by
  refine ⟨h.le, fun i hi => ?_⟩
  obtain ⟨b, off, rfl, c0, hlt⟩ := h.ok i hi
  exact ⟨b, off, rfl, (hb.cell hlt).trans c0, Nat.lt_of_lt_of_le hlt hb.size⟩

/-- A row of rows of integers: row r has L r integers Z r. -/
structure SRow (w : World) (ao : Option Addr) (n : Nat) (A : Nat → Option Addr) (L C : Nat → Nat) (Z : Nat → Nat → Int) : Prop where
  le : n ≤ 9223372036854775807
  ok : ∀ i, i < n → ∃ b off, ao = some ⟨b, off, none⟩ ∧ w.cell? ⟨b, off + i, none⟩ = some (.slice (A i) (L i) (C i)) ∧ b < w.heap.size
  row : ∀ i, i < n → IRow w (A i) (L i) (Z i)

theorem SRow.below {w w' : World} {ao : Option Addr} {n : Nat} {A : Nat → Option Addr} {L C : Nat → Nat} {Z : Nat → Nat → Int} (h : SRow w ao n A L C Z) (hb : Below w.heap.size w w') : SRow w' ao n A L C Z := by
  refine ⟨h.le, fun i hi => ?_, fun i hi => (h.row i hi).below hb⟩
  obtain ⟨b, off, rfl, c0, hlt⟩ := h.ok i hi
  exact ⟨b, off, rfl, (hb.cell hlt).trans c0, Nat.lt_of_lt_of_le hlt hb.size⟩

set_option maxRecDepth 100000 in
set_option maxHeartbeats 2000000 in
theorem bytes1_any {w : World} {ao bo : Option Addr} {n cap m dap : Nat} {A : Nat → Option Addr} {L C : Nat → Nat} {Z : Nat → Nat → Int} {X : Nat → Int} {mine short : Int} (hv : SRow w ao n A L C Z) (hu : IRow w bo m X) :
    Calls Trym.prog 12 #[.slice ao n cap, .slice bo m dap, .int .i64 mine, .int .i64 short] w fun e w' => AnyBool e ∧ w' = w := by
  have hle := hv.le
  have hle' := hu.le
  by_cases g1 : 1048576 < n
  · go_enter Trym.func12, Trym.ntmps12
    go_wp2
    go_ret
    exact ⟨⟨_, rfl⟩, rfl⟩
  go_enter Trym.func12, Trym.ntmps12
  go_wp2
  go_loop [9, 10] (fun x i => ∃ (k : Nat) (z : Int), k ≤ n ∧ i = .int .i64 k ∧ x = .int .i64 z) (fun _ i => n - (intOf i).toNat)
  case atStart => exact ⟨0, _, Nat.zero_le _, rfl, rfl⟩
  case round =>
    obtain ⟨k, z, hk, rfl, rfl⟩ := hrel
    by_cases hlt : k < n
    · obtain ⟨b, off, rfl, c0, hb⟩ := hv.ok k hlt
      have hl := (hv.row k hlt).le
      go_wp2
      all_goals first
        | (go_ret; exact ⟨⟨_, rfl⟩, rfl⟩)
        | (go_round
           case rel => exact ⟨k + 1, _, by omega, by go_num, rfl⟩
           case measure => simp [intOf]; omega)
    · go_wp2
      all_goals (go_ret; exact ⟨⟨_, rfl⟩, rfl⟩)

set_option maxRecDepth 100000 in
set_option maxHeartbeats 2000000 in
theorem bytes2_any {w : World} {ao bo : Option Addr} {n cap m dap : Nat} {A : Nat → Option Addr} {L C : Nat → Nat} {Z : Nat → Nat → Int} {X : Nat → Int} {mine : Int} (hv : SRow w ao n A L C Z) (hu : IRow w bo m X) :
    Calls Trym.prog 17 #[.slice ao n cap, .slice bo m dap, .int .i64 mine] w fun e w' => AnyBool e ∧ w' = w := by
  have hle := hv.le
  have hle' := hu.le
  by_cases g1 : 1048576 < n
  · go_enter Trym.func17, Trym.ntmps17
    go_wp2
    go_ret
    exact ⟨⟨_, rfl⟩, rfl⟩
  go_enter Trym.func17, Trym.ntmps17
  go_wp2
  go_loop [7, 8] (fun x i => ∃ (k : Nat) (z : Int), k ≤ n ∧ i = .int .i64 k ∧ x = .int .i64 z) (fun _ i => n - (intOf i).toNat)
  case atStart => exact ⟨0, _, Nat.zero_le _, rfl, rfl⟩
  case round =>
    obtain ⟨k, z, hk, rfl, rfl⟩ := hrel
    by_cases hlt : k < n
    · obtain ⟨b, off, rfl, c0, hb⟩ := hv.ok k hlt
      have hl := (hv.row k hlt).le
      go_wp2
      all_goals first
        | (go_ret; exact ⟨⟨_, rfl⟩, rfl⟩)
        | (go_round
           case rel => exact ⟨k + 1, _, by omega, by go_num, rfl⟩
           case measure => simp [intOf]; omega)
    · go_wp2
      all_goals (go_ret; exact ⟨⟨_, rfl⟩, rfl⟩)

/-- What the premise asks of the first k peers. -/
def Prem (k : Nat) (L : Nat → Nat) (X : Nat → Int) (Z : Nat → Nat → Int) : Prop :=
  ∀ p, p < k → 0 < L p ∧ 0 ≤ X p ∧ X p ≤ 1099511627776 ∧ ∀ j, j < L p → 0 ≤ Z p j ∧ Z p j ≤ 1099511627776

def PremBool (n m : Nat) (L : Nat → Nat) (X : Nat → Int) (Z : Nat → Nat → Int) (e : Ending) : Prop := ∃ b, e = .returned (.bool b) ∧ (b = true → m = n ∧ Prem n L X Z)

set_option maxRecDepth 100000 in
set_option maxHeartbeats 2000000 in
theorem prem_any {w : World} {ao bo : Option Addr} {n cap m dap : Nat} {A : Nat → Option Addr} {L C : Nat → Nat} {Z : Nat → Nat → Int} {X : Nat → Int} (hv : SRow w ao n A L C Z) (hu : IRow w bo m X) :
    Calls Trym.prog 13 #[.slice ao n cap, .slice bo m dap] w fun e w' => PremBool n m L X Z e ∧ w' = w := by
  have hle := hv.le
  have hle' := hu.le
  by_cases g1 : m = n
  · subst g1
    go_enter Trym.func13, Trym.ntmps13
    go_wp2
    go_loop [5] (fun i => ∃ (k : Nat), k ≤ m ∧ i = .int .i64 k ∧ Prem k L X Z) (fun i => m - (intOf i).toNat)
    case atStart => exact ⟨0, Nat.zero_le _, rfl, fun p hp => by omega⟩
    case round =>
      obtain ⟨k, hk, rfl, hpr⟩ := hrel
      have HP : Hid (Prem k L X Z) := hpr
      clear hpr
      by_cases hlt : k < m
      · obtain ⟨b, off, rfl, c0, hb⟩ := hv.ok k hlt
        obtain ⟨b', off', rfl, d0, hb'⟩ := hu.ok k hlt
        have hrow := hv.row k hlt
        have hl := hrow.le
        by_cases l0 : L k = 0
        · rw [l0] at c0
          clear hrow hl l0
          go_wp2
          go_ret
          exact ⟨⟨_, rfl, fun h => by cases h⟩, rfl⟩
        by_cases x0 : X k < 0
        · go_wp2
          go_ret
          exact ⟨⟨_, rfl, fun h => by cases h⟩, rfl⟩
        by_cases x1 : 1099511627776 < X k
        · go_wp2
          go_ret
          exact ⟨⟨_, rfl, fun h => by cases h⟩, rfl⟩
        go_wp2
        go_loop [6] (fun i => ∃ (j : Nat), j ≤ L k ∧ i = .int .i64 j ∧ ∀ i, i < j → 0 ≤ Z k i ∧ Z k i ≤ 1099511627776) (fun i => L k - (intOf i).toNat)
        case atStart => exact ⟨0, Nat.zero_le _, rfl, fun p hp => by omega⟩
        case round =>
          obtain ⟨j, hj, rfl, hz⟩ := hrel
          have HZ : Hid (∀ i, i < j → 0 ≤ Z k i ∧ Z k i ≤ 1099511627776) := hz
          clear hz
          by_cases hlt' : j < L k
          · obtain ⟨b2, off2, ha, f0, hb2⟩ := hrow.ok j hlt'
            rw [ha] at c0
            by_cases z0 : Z k j < 0
            · go_wp2
              go_ret
              exact ⟨⟨_, rfl, fun h => by cases h⟩, rfl⟩
            by_cases z1 : 1099511627776 < Z k j
            · go_wp2
              go_ret
              exact ⟨⟨_, rfl, fun h => by cases h⟩, rfl⟩
            go_wp2
            go_round
            case rel => exact ⟨j + 1, by omega, by go_num, fun i hi => if h : i = j then h ▸ ⟨by omega, by omega⟩ else HZ.out i (by omega)⟩
            case measure => simp [intOf]; omega
          · have hjl : j = L k := by omega
            have HJ : Hid (j = L k) := hjl
            clear hjl
            go_wp2
            go_round
            case rel => exact ⟨k + 1, by omega, by go_num, fun p hp => if h : p = k then h ▸ ⟨by omega, by omega, by omega, fun i hi => HZ.out i (by have := HJ.out; omega)⟩ else HP.out p (by omega)⟩
            case measure => simp [intOf]; omega
      · obtain rfl : m = k := by omega
        go_wp2
        go_ret
        exact ⟨⟨_, rfl, fun _ => ⟨rfl, HP.out⟩⟩, rfl⟩
  · have hne : ((m : Int) != (n : Int)) = true := by simp; omega
    go_enter Trym.func13, Trym.ntmps13
    go_wp2
    go_ret
    exact ⟨⟨_, rfl, fun h => by cases h⟩, rfl⟩
end Go.Proofs.Qxb6618960aMods.W
