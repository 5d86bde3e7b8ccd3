import Derived.Test.Qxb6618960aModsW12
namespace Go.Proofs.Qxb6618960aMods.W
open Go.ChangeShapes Go.WideShapes Go.ChangeAt Go.RowKit

/-- The first k rows are short. -/
def Short (k : Nat) (L : Nat → Nat) : Prop := ∀ p, p < k → L p ≤ 1048576
theorem Short.step {k : Nat} {L : Nat → Nat} (h : Short k L) (hk : L k ≤ 1048576) : Short (k + 1) L := fun p hp => if e : p = k then e ▸ hk else h p (by omega)

def LenBool (n : Nat) (L : Nat → Nat) (e : Ending) : Prop := ∃ b, e = .returned (.bool b) ∧ (b = true → Short n L)

set_option maxRecDepth 100000 in
set_option maxHeartbeats 2000000 in
theorem bytes1_len {w : World} {ao bo : Option Addr} {n cap m dap : Nat} {A : Nat → Option Addr} {L C : Nat → Nat} {Z : Nat → Nat → Int} {X : Nat → Int} {mine short : Int} (hv : SRow w ao n A L C Z) (hu : IRow w bo m X) :
    Calls Trym.prog 12 #[.slice ao n cap, .slice bo m dap, .int .i64 mine, .int .i64 short] w fun e w' => LenBool n L e ∧ w' = w := by
  have hle := hv.le
  have hle' := hu.le
  by_cases g1 : 1048576 < n
  · go_enter Trym.func12, Trym.ntmps12
    go_wp2
    go_ret
    exact ⟨⟨_, rfl, fun h => by cases h⟩, rfl⟩
  go_enter Trym.func12, Trym.ntmps12
  go_wp2
  go_loop [9, 10] (fun x i => ∃ (k : Nat) (z : Int), k ≤ n ∧ i = .int .i64 k ∧ x = .int .i64 z ∧ Short k L) (fun _ i => n - (intOf i).toNat)
  case atStart => exact ⟨0, _, Nat.zero_le _, rfl, rfl, fun p hp => by omega⟩
  case round =>
    obtain ⟨k, z, hk, rfl, rfl, hsh⟩ := hrel
    have HSH : Hid (Short k L) := hsh
    clear hsh
    by_cases hlt : k < n
    · obtain ⟨b, off, rfl, c0, hb⟩ := hv.ok k hlt
      have hl := (hv.row k hlt).le
      by_cases g2 : 1048576 < L k
      · go_wp2
        go_ret
        exact ⟨⟨_, rfl, fun h => by cases h⟩, rfl⟩
      go_wp2
      all_goals first
        | (go_ret; exact ⟨⟨_, rfl, fun h => by cases h⟩, rfl⟩)
        | (go_round
           case rel => exact ⟨k + 1, _, by omega, by go_num, rfl, HSH.out.step (by omega)⟩
           case measure => simp [intOf]; omega)
    · obtain rfl : n = k := by omega
      go_wp2
      all_goals (go_ret; exact ⟨⟨_, rfl, fun _ => HSH.out⟩, rfl⟩)

set_option maxRecDepth 100000 in
set_option maxHeartbeats 2000000 in
theorem bytes2_len {w : World} {ao bo : Option Addr} {n cap m dap : Nat} {A : Nat → Option Addr} {L C : Nat → Nat} {Z : Nat → Nat → Int} {X : Nat → Int} {mine : Int} (hv : SRow w ao n A L C Z) (hu : IRow w bo m X) :
    Calls Trym.prog 17 #[.slice ao n cap, .slice bo m dap, .int .i64 mine] w fun e w' => LenBool n L e ∧ w' = w := by
  have hle := hv.le
  have hle' := hu.le
  by_cases g1 : 1048576 < n
  · go_enter Trym.func17, Trym.ntmps17
    go_wp2
    go_ret
    exact ⟨⟨_, rfl, fun h => by cases h⟩, rfl⟩
  go_enter Trym.func17, Trym.ntmps17
  go_wp2
  go_loop [7, 8] (fun x i => ∃ (k : Nat) (z : Int), k ≤ n ∧ i = .int .i64 k ∧ x = .int .i64 z ∧ Short k L) (fun _ i => n - (intOf i).toNat)
  case atStart => exact ⟨0, _, Nat.zero_le _, rfl, rfl, fun p hp => by omega⟩
  case round =>
    obtain ⟨k, z, hk, rfl, rfl, hsh⟩ := hrel
    have HSH : Hid (Short k L) := hsh
    clear hsh
    by_cases hlt : k < n
    · obtain ⟨b, off, rfl, c0, hb⟩ := hv.ok k hlt
      have hl := (hv.row k hlt).le
      by_cases g2 : 1048576 < L k
      · go_wp2
        go_ret
        exact ⟨⟨_, rfl, fun h => by cases h⟩, rfl⟩
      go_wp2
      all_goals first
        | (go_ret; exact ⟨⟨_, rfl, fun h => by cases h⟩, rfl⟩)
        | (go_round
           case rel => exact ⟨k + 1, _, by omega, by go_num, rfl, HSH.out.step (by omega)⟩
           case measure => simp [intOf]; omega)
    · obtain rfl : n = k := by omega
      go_wp2
      all_goals (go_ret; exact ⟨⟨_, rfl, fun _ => HSH.out⟩, rfl⟩)

end Go.Proofs.Qxb6618960aMods.W
