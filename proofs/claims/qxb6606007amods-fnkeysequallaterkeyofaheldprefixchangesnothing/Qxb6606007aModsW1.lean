import Derived.Test.Qxb6606007aModsRows
import Derived.WalkKit
import Derived.ProofKit
import Derived.OpenShut
import Derived.BigQuiet
import Derived.Deep.QuietTactic
import Derived.Deep.Slices
import Derived.Deep.RegionWith
import Derived.WalkSmall
import Derived.WalkSpells
import Derived.WalkLawsBesides
namespace Go.Proofs.Qxb6606007aMods.W
open Go.ChangeShapes Go.WideShapes Go.ChangeAt Go.RowKit

/-- It ends with some bool. -/
def AnyBool (e : Ending) : Prop := ∃ b, e = .returned (.bool b)
/-- It ends with some int. -/
def AnyInt (e : Ending) : Prop := ∃ z, e = .returned (.int .i64 z)
/-- It ends with a bool that is true only where both lengths are small. -/
def FitBool (n m : Nat) (e : Ending) : Prop := ∃ b, e = .returned (.bool b) ∧ (b = true → n ≤ 4096 ∧ m ≤ 4096)

/-- A row of pairs as the walk reads it: two strings an element. -/
structure PRow (w : World) (ao : Option Addr) (len : Nat) (A S : Nat → ByteArray) : Prop where
  le : len ≤ 9223372036854775807
  ok : ∀ i, i < len → ∃ b off, ao = some ⟨b, off, none⟩ ∧ w.cell? ⟨b, off + i * 2, none⟩ = some (.string (A i)) ∧ w.cell? ⟨b, off + i * 2 + 1, none⟩ = some (.string (S i)) ∧
    b < w.heap.size ∧ (A i).size ≤ 9223372036854775807 ∧ (S i).size ≤ 9223372036854775807

theorem PRow.below {w w' : World} {ao : Option Addr} {len : Nat} {A S : Nat → ByteArray} (h : PRow w ao len A S) (hb : Below w.heap.size w w') : PRow w' ao len A S := by
  refine ⟨h.le, fun i hi => ?_⟩
  obtain ⟨b, off, rfl, c0, c1, hlt, hs⟩ := h.ok i hi
  exact ⟨b, off, rfl, (hb.cell hlt).trans c0, (hb.cell hlt).trans c1, Nat.lt_of_lt_of_le hlt hb.size, hs⟩

set_option maxRecDepth 100000 in
set_option maxHeartbeats 4000000 in
theorem bytes1_any {w : World} {q q' : Bool} {s s' : ByteArray} {ao bo : Option Addr} {n cap m dap : Nat} {A S A' S' : Nat → ByteArray} (hv : PRow w ao n A S) (hu : PRow w bo m A' S') (hs : s.size ≤ 9223372036854775807) (hs' : s'.size ≤ 9223372036854775807) :
    Calls Trym.prog 7 #[.bool q, .string s, .slice ao n cap, .bool q', .string s', .slice bo m dap] w fun e w' => AnyBool e ∧ w' = w := by
  have hle := hv.le
  have hle' := hu.le
  by_cases g1 : 1048576 < s.size
  · go_enter Trym.func7, Trym.ntmps7
    go_wp2
    go_ret
    exact ⟨⟨_, rfl⟩, rfl⟩
  by_cases g2 : 1048576 < n
  · go_enter Trym.func7, Trym.ntmps7
    go_wp2
    go_ret
    exact ⟨⟨_, rfl⟩, rfl⟩
  by_cases g3 : 1048576 < s.size + n
  · go_enter Trym.func7, Trym.ntmps7
    go_wp2
    go_ret
    exact ⟨⟨_, rfl⟩, rfl⟩
  go_enter Trym.func7, Trym.ntmps7
  go_wp2
  go_loop [13, 14] (fun x i => ∃ (k : Nat) (z : Int), k ≤ n ∧ i = .int .i64 k ∧ x = .int .i64 z) (fun _ i => n - (intOf i).toNat)
  case atStart => exact ⟨0, _, Nat.zero_le _, rfl, rfl⟩
  case round =>
    obtain ⟨k, z, hk, rfl, rfl⟩ := hrel
    by_cases hlt : k < n
    · obtain ⟨b, off, rfl, c0, c1, hb, h1, h2⟩ := hv.ok k hlt
      go_wp2
      all_goals first
        | (go_ret; exact ⟨⟨_, rfl⟩, rfl⟩)
        | (go_round
           case rel => exact ⟨k + 1, _, by omega, by go_num, rfl⟩
           case measure => simp [intOf]; omega)
    · by_cases f1 : 1048576 < s'.size
      · go_wp2
        go_ret
        exact ⟨⟨_, rfl⟩, rfl⟩
      by_cases f2 : 1048576 < wrap64 (z + s'.size)
      · go_wp2
        go_ret
        exact ⟨⟨_, rfl⟩, rfl⟩
      by_cases f3 : 1048576 < m
      · go_wp2
        go_ret
        exact ⟨⟨_, rfl⟩, rfl⟩
      by_cases f4 : 1048576 < wrap64 (wrap64 (z + s'.size) + m)
      · go_wp2
        go_ret
        exact ⟨⟨_, rfl⟩, rfl⟩
      go_wp2
      go_loop [13, 15] (fun x i => ∃ (k : Nat) (z : Int), k ≤ m ∧ i = .int .i64 k ∧ x = .int .i64 z) (fun _ i => m - (intOf i).toNat)
      case atStart => exact ⟨0, _, Nat.zero_le _, rfl, rfl⟩
      case round =>
        obtain ⟨k', z', hk', rfl, rfl⟩ := hrel
        by_cases hlt' : k' < m
        · obtain ⟨b, off, rfl, c0, c1, hb, h1, h2⟩ := hu.ok k' hlt'
          go_wp2
          all_goals first
            | (go_ret; exact ⟨⟨_, rfl⟩, rfl⟩)
            | (go_round
               case rel => exact ⟨k' + 1, _, by omega, by go_num, rfl⟩
               case measure => simp [intOf]; omega)
        · go_wp2
          go_ret
          exact ⟨⟨_, rfl⟩, rfl⟩

set_option maxRecDepth 100000 in
set_option maxHeartbeats 4000000 in
theorem bytes2_any {w : World} {s : ByteArray} {ao bo : Option Addr} {n cap m dap : Nat} {A S A' S' : Nat → ByteArray} (hv : PRow w ao n A S) (hu : PRow w bo m A' S') (hs : s.size ≤ 9223372036854775807) :
    Calls Trym.prog 13 #[.string s, .slice ao n cap, .slice bo m dap] w fun e w' => AnyBool e ∧ w' = w := by
  have hle := hv.le
  have hle' := hu.le
  by_cases g1 : 1048576 < s.size
  · go_enter Trym.func13, Trym.ntmps13
    go_wp2
    go_ret
    exact ⟨⟨_, rfl⟩, rfl⟩
  by_cases g2 : 1048576 < n
  · go_enter Trym.func13, Trym.ntmps13
    go_wp2
    go_ret
    exact ⟨⟨_, rfl⟩, rfl⟩
  by_cases g3 : 1048576 < s.size + n
  · go_enter Trym.func13, Trym.ntmps13
    go_wp2
    go_ret
    exact ⟨⟨_, rfl⟩, rfl⟩
  go_enter Trym.func13, Trym.ntmps13
  go_wp2
  go_loop [7, 8] (fun x i => ∃ (k : Nat) (z : Int), k ≤ n ∧ i = .int .i64 k ∧ x = .int .i64 z) (fun _ i => n - (intOf i).toNat)
  case atStart => exact ⟨0, _, Nat.zero_le _, rfl, rfl⟩
  case round =>
    obtain ⟨k, z, hk, rfl, rfl⟩ := hrel
    by_cases hlt : k < n
    · obtain ⟨b, off, rfl, c0, c1, hb, h1, h2⟩ := hv.ok k hlt
      go_wp2
      all_goals first
        | (go_ret; exact ⟨⟨_, rfl⟩, rfl⟩)
        | (go_round
           case rel => exact ⟨k + 1, _, by omega, by go_num, rfl⟩
           case measure => simp [intOf]; omega)
    · by_cases f3 : 1048576 < m
      · go_wp2
        go_ret
        exact ⟨⟨_, rfl⟩, rfl⟩
      by_cases f4 : 1048576 < wrap64 (z + m)
      · go_wp2
        go_ret
        exact ⟨⟨_, rfl⟩, rfl⟩
      go_wp2
      go_loop [7, 9] (fun x i => ∃ (k : Nat) (z : Int), k ≤ m ∧ i = .int .i64 k ∧ x = .int .i64 z) (fun _ i => m - (intOf i).toNat)
      case atStart => exact ⟨0, _, Nat.zero_le _, rfl, rfl⟩
      case round =>
        obtain ⟨k', z', hk', rfl, rfl⟩ := hrel
        by_cases hlt' : k' < m
        · obtain ⟨b, off, rfl, c0, c1, hb, h1, h2⟩ := hu.ok k' hlt'
          go_wp2
          all_goals first
            | (go_ret; exact ⟨⟨_, rfl⟩, rfl⟩)
            | (go_round
               case rel => exact ⟨k' + 1, _, by omega, by go_num, rfl⟩
               case measure => simp [intOf]; omega)
        · go_wp2
          go_ret
          exact ⟨⟨_, rfl⟩, rfl⟩

set_option maxHeartbeats 1000000 in
theorem pbytes_any {w : World} {ao : Option Addr} {len cap : Nat} {A S : Nat → ByteArray} (hv : PRow w ao len A S) :
    Calls Trym.prog 24 #[.slice ao len cap] w fun e w' => AnyInt e ∧ Below w.heap.size w w' := by
  have hle := hv.le
  go_enter Trym.func24, Trym.ntmps24
  go_wp2
  go_loopw [3, 4] (fun n i wr => ∃ (k : Nat) (z : Int), k ≤ len ∧ i = .int .i64 k ∧ n = .int .i64 z ∧ Below w.heap.size w wr) (fun _ i _ => len - (intOf i).toNat)
  case atStart => exact ⟨0, _, Nat.zero_le _, rfl, rfl, Below.refl _ _⟩
  case round =>
    obtain ⟨k, z, hk, rfl, rfl, hbr⟩ := hrel
    have hv' := hv.below hbr
    by_cases hlt : k < len
    · obtain ⟨b, off, rfl, c0, c1, hb, h1, h2⟩ := hv'.ok k hlt
      have b0 : (0 : Int) ≤ k := by omega
      have b1 : (k : Int) < len := by omega
      by_cases g1 : 1048576 < (A k).size
      · go_wp2
        go_ret
        exact ⟨⟨_, rfl⟩, hbr⟩
      · by_cases g2 : 1048576 < (S k).size
        · go_wp2
          go_ret
          exact ⟨⟨_, rfl⟩, hbr⟩
        · go_wp2
          go_quiet (fail)
          go_wp2
          all_goals first
            | (go_ret; exact ⟨⟨_, rfl⟩, below_drewN hbr _⟩)
            | (go_roundw
               case rel => exact ⟨k + 1, _, by omega, by go_num, rfl, below_drewN hbr _⟩
               case measure => simp [intOf]; omega)
    · go_wp2
      go_ret
      exact ⟨⟨_, rfl⟩, hbr⟩

set_option maxHeartbeats 1000000 in
theorem fit_any {w : World} {s s' : ByteArray} {ao bo : Option Addr} {n cap m dap : Nat} {A S A' S' : Nat → ByteArray} (hv : PRow w ao n A S) (hu : PRow w bo m A' S') (hs : s.size ≤ 9223372036854775807) (hs' : s'.size ≤ 9223372036854775807) :
    Calls Trym.prog 8 #[.string s, .slice ao n cap, .string s', .slice bo m dap] w fun e w' => FitBool n m e ∧ Below w.heap.size w w' := by
  have hle := hv.le
  have hle' := hu.le
  by_cases g1 : 4096 < n
  · go_enter Trym.func8, Trym.ntmps8
    go_wp2
    go_ret
    exact ⟨⟨_, rfl, fun h => by cases h⟩, Below.refl _ _⟩
  by_cases g2 : 4096 < m
  · go_enter Trym.func8, Trym.ntmps8
    go_wp2
    go_ret
    exact ⟨⟨_, rfl, fun h => by cases h⟩, Below.refl _ _⟩
  by_cases g3 : 1048576 < s.size
  · go_enter Trym.func8, Trym.ntmps8
    go_wp2
    go_ret
    exact ⟨⟨_, rfl, fun h => by cases h⟩, Below.refl _ _⟩
  by_cases g4 : 1048576 < s'.size
  · go_enter Trym.func8, Trym.ntmps8
    go_wp2
    go_ret
    exact ⟨⟨_, rfl, fun h => by cases h⟩, Below.refl _ _⟩
  go_enter Trym.func8, Trym.ntmps8
  go_wp2_with fail
  refine (pbytes_any hv).mono ?_
  rintro e w1 ⟨⟨z, rfl⟩, hb1⟩
  have hu1 := hu.below hb1
  go_wp2_with fail
  refine (pbytes_any hu1).mono ?_
  rintro e w2 ⟨⟨z', rfl⟩, hb2⟩
  go_wp2
  go_ret
  exact ⟨⟨_, rfl, fun _ => by omega⟩, hb1.trans (hb2.mono hb1.size)⟩
end Go.Proofs.Qxb6606007aMods.W
