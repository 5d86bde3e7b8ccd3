import Derived.Test.Qxb6605744aModsRows
import Derived.WalkKit
import Derived.ProofKit
import Derived.OpenShut
import Derived.BigQuiet
import Derived.Deep.QuietTactic
namespace Go.Proofs.Qxb6605744aMods.W
open Go.ChangeShapes Go.WideShapes Go.ChangeAt Go.RowKit

def offT : Nat → Int
  | 0 => 0
  | 1 => 2
  | 2 => 4
  | 3 => 8
  | _ => 10

def widT : Nat → Int
  | 0 => 2
  | 1 => 2
  | 2 => 4
  | 3 => 2
  | _ => 0

theorem off_succ (j : Nat) (h : j < 4) : offT (j + 1) = offT j + widT j := by
  match j, h with
  | 0, _ => rfl
  | 1, _ => rfl
  | 2, _ => rfl
  | 3, _ => rfl
theorem off_bd (j : Nat) : 0 ≤ offT j ∧ offT j ≤ 10 := by
  match j with
  | 0 => decide
  | 1 => decide
  | 2 => decide
  | 3 => decide
  | n + 4 => show (0:Int) ≤ 10 ∧ (10:Int) ≤ 10; decide
theorem wid_bd (j : Nat) : 0 ≤ widT j ∧ widT j ≤ 4 := by
  match j with
  | 0 => decide
  | 1 => decide
  | 2 => decide
  | 3 => decide
  | n + 4 => show (0:Int) ≤ 0 ∧ (0:Int) ≤ 4; decide

theorem width_any (j : Nat) (h : j < 4) (w : World) :
    Calls Trym.prog 11 #[.int .i64 (j : Int)] w fun e w' => e = .returned (.int .i64 (widT j)) ∧ w' = w := by
  match j, h with
  | 0, _ => go_enter Trym.func11, Trym.ntmps11; go_wp2; go_ret; exact ⟨rfl, rfl⟩
  | 1, _ => go_enter Trym.func11, Trym.ntmps11; go_wp2; go_ret; exact ⟨rfl, rfl⟩
  | 2, _ => go_enter Trym.func11, Trym.ntmps11; go_wp2; go_ret; exact ⟨rfl, rfl⟩
  | 3, _ => go_enter Trym.func11, Trym.ntmps11; go_wp2; go_ret; exact ⟨rfl, rfl⟩

set_option maxHeartbeats 400000 in
theorem offset_any (k : Nat) (h : k ≤ 4) (w : World) :
    Calls Trym.prog 5 #[.int .i64 (k : Int)] w fun e w' => e = .returned (.int .i64 (offT k)) ∧ w' = w := by
  go_enter Trym.func5, Trym.ntmps5
  go_wp2
  go_loop [3, 4] (fun o i => ∃ j : Nat, j ≤ k ∧ i = .int .i64 j ∧ o = .int .i64 (offT j)) (fun _ i => k - (intOf i).toNat)
  case atStart => exact ⟨0, Nat.zero_le _, rfl, rfl⟩
  case round =>
    obtain ⟨j, hj, rfl, rfl⟩ := hrel
    have hb := off_bd j
    have hb2 := wid_bd j
    by_cases hlt : j < k
    · have hs : Hid (offT (j + 1) = offT j + widT j) := off_succ j (by omega)
      go_wp2_with (go_at_call 11; refine (width_any j (by omega) _).mono ?_; rintro e w' ⟨rfl, rfl⟩)
      go_round
      case rel => exact ⟨j + 1, by omega, by go_num, by rw [hs.out]⟩
      case measure => simp [intOf]; omega
    · have : j = k := by omega
      subst this
      go_wp2
      go_ret
      exact ⟨rfl, rfl⟩
end Go.Proofs.Qxb6605744aMods.W
