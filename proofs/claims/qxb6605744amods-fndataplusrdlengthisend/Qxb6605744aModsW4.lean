import Derived.Test.Qxb6605744aModsW3
namespace Go.Proofs.Qxb6605744aMods.W
open Go.ChangeShapes Go.WideShapes Go.ChangeAt Go.RowKit

theorem ret_bool {a b : Bool} (h : a = b) : Ending.returned (.bool a) = .returned (.bool b) := by rw [h]

theorem get16_r (g n p : Nat) (q : Int) (hq : q = p) (hp : p + 1 < n) (hn : n ≤ 100000) (r : Int) (h0 : 0 ≤ r) (h1 : r ≤ 65535) (w : World)
    (c0 : w.cell? ⟨g, p, none⟩ = some (.int .u8 (r / 256))) (c1 : w.cell? ⟨g, p + 1, none⟩ = some (.int .u8 (r % 256))) :
    Calls Trym.prog 10 #[.slice (some ⟨g, 0, none⟩) n n, .int .i64 q] w fun e w' => e = .returned (.int .i64 r) ∧ Below w.heap.size w w' := by
  refine (get16_q g n p q hq hp hn (r / 256) (r % 256) (by omega) (by omega) (by omega) (by omega) w c0 c1).mono ?_
  rintro e w' ⟨rfl, hb⟩
  exact ⟨ret_int (by omega), hb⟩

set_option maxHeartbeats 1000000 in
theorem data_walk (a0 : Int) (a1 : Bool) (a2 : Int) (h0 : 0 ≤ a0) (h1 : a0 ≤ 65535) (f n : Nat) (hf : f + 10 ≤ n) (hn : n ≤ 65535) (w : World) :
    Calls Trym.prog 4 #[.int .u16 a0, .bool a1, .int .i64 a2, .int .i64 (f : Int), .int .i64 (n : Int)] w fun e w' => e = .returned (.bool true) ∧ Below w.heap.size w w' := by
  obtain ⟨i0, hi, hz0, hz1, hz2⟩ := info_parts Trym.info5
  go_enter Trym.func4, Trym.ntmps4
  go_wp2_with (first
    | (go_at_call 5; refine (off4 _).mono ?_; rintro e w' ⟨rfl, hw⟩; subst w')
    | (at_make; refine wpList_make_full _ rfl (.tmp 32) (.tmp 32) 24 rfl w.heap.size 5 i0 (.int .u8 0) 1 Trym.underlying24 hi hz0 hz1 .i64 .i64 _ _ n rfl rfl (by omega) (by omega) (by rw [hz2]; omega) (by unfold maxLen; omega) (Nat.le_refl _) ?_; intro w1 hown hgrow))
  have hh : Has w1 w.heap.size n := has_of_own hown (by simp [madeCells])
  have hb : Below w.heap.size w w1 := (Below.refl _ _).grown hgrow (Nat.le_refl _) (by intro k hk; cases hk)
  clear hown hgrow hi hz0 hz1 hz2
  go_loopw [12] (fun i wr => ∃ k : Nat, k ≤ n ∧ i = .int .i64 k ∧ Has wr w.heap.size n ∧ Below w.heap.size w wr) (fun i _ => n - (intOf i).toNat)
  case atStart => exact ⟨0, Nat.zero_le _, rfl, hh, hb⟩
  case round =>
    obtain ⟨k, hk, rfl, hr, hbr⟩ := hrel
    clear hh hb
    by_cases hlt : k < n
    · obtain ⟨x, hx⟩ := hr.1 k hlt
      have fx := hr.2 k
      go_wp2
      go_roundw
      case rel => exact ⟨k + 1, by omega, by go_num, hr.set _ _, hbr.setCell (Nat.le_refl _) _⟩
      case measure => simp [intOf]; omega
    · obtain ⟨x8, c8⟩ := hr.1 (f + 8) (by omega)
      obtain ⟨x9, c9⟩ := hr.1 (f + 9) (by omega)
      have hsz : w.heap.size < wr.heap.size := lt_of_cell c8
      go_wp2_with (first
        | (go_at_call_of 5 (Value.int IntKind.i64 0); refine (off0 _).mono ?_; rintro e w' ⟨rfl, hw⟩; subst w')
        | (go_at_call_of 5 (Value.int IntKind.i64 1); refine (off1 _).mono ?_; rintro e w' ⟨rfl, hw⟩; subst w')
        | (go_at_call_of 5 (Value.int IntKind.i64 3); refine (off3 _).mono ?_; rintro e w' ⟨rfl, hw⟩; subst w')
        | (go_at_call_of 5 (Value.int IntKind.i64 4); refine (off4 _).mono ?_; rintro e w' ⟨rfl, hw⟩; subst w')
        | (go_at_call_of 6 (Value.int IntKind.i64 a0); refine (put_q w.heap.size n f _ _ (by omega) h0 h1 (by omega) (by omega) _ hr).mono ?_; rintro e w' ⟨rfl, hw, hr1⟩; subst w')
        | (go_at_call_of 6 (Value.int IntKind.i64 1); refine (put_q w.heap.size n (f + 2) _ _ (by omega) (by omega) (by omega) (by omega) (by omega) _ hr1).mono ?_; rintro e w' ⟨rfl, hw, hr2⟩; subst w')
        | (go_at_call 6; refine (put_q w.heap.size n (f + 8) _ _ (by omega) (by omega) (by omega) (by omega) (by omega) _ hr2).mono ?_; rintro e w' ⟨rfl, hw, hr3⟩; subst w')
        | (go_at_call 9; refine (data_any _ _ _ _ _ (by omega) (by omega) _).mono ?_; rintro e w' ⟨rfl, hw⟩; subst w')
        | (go_at_call 10; refine (get16_r w.heap.size n (f + 8) _ (by omega) (by omega) (by omega) ((n : Int) - ((f : Int) + 10)) (by omega) (by omega) _ (by go_simp) (by go_simp)).mono ?_; rintro e w' ⟨rfl, hb4⟩))
      go_ret
      refine ⟨?_, ?_⟩
      · exact ret_bool (by simp only [beq_iff_eq]; omega)
      refine Below.trans ?_ (hb4.mono (by simp; omega))
      refine Below.alloc (Below.alloc ?_ (by simp; omega) _) (by simp; omega) _
      iterate 6 refine Below.setCell ?_ (by exact Nat.le_refl _) _
      exact hbr

set_option maxHeartbeats 1000000 in
theorem data_out (a0 : Int) (a1 : Bool) (a2 : Int) (a3 a4 : Int) (h : a3 < 0 ∨ 65535 < a3 ∨ a4 < a3 + 10 ∨ 65535 < a4) (w : World) :
    Calls Trym.prog 4 #[.int .u16 a0, .bool a1, .int .i64 a2, .int .i64 a3, .int .i64 a4] w fun e w' => e = .returned (.bool true) ∧ Below w.heap.size w w' := by
  by_cases g0 : a3 < 0
  · go_enter Trym.func4, Trym.ntmps4
    go_wp2
    go_ret
    exact ⟨rfl, Below.refl _ _⟩
  by_cases g1 : 65535 < a3
  · go_enter Trym.func4, Trym.ntmps4
    go_wp2
    go_ret
    exact ⟨rfl, Below.refl _ _⟩
  by_cases g2 : a4 < a3 + 10
  · go_enter Trym.func4, Trym.ntmps4
    go_wp2_with (go_at_call 5; refine (off4 _).mono ?_; rintro e w' ⟨rfl, hw⟩; subst w')
    go_ret
    exact ⟨rfl, Below.refl _ _⟩
  have g3 : 65535 < a4 := by omega
  go_enter Trym.func4, Trym.ntmps4
  go_wp2_with (go_at_call 5; refine (off4 _).mono ?_; rintro e w' ⟨rfl, hw⟩; subst w')
  go_ret
  exact ⟨rfl, Below.refl _ _⟩

theorem data_all (a0 : Int) (a1 : Bool) (a2 : Int) (a3 a4 : Int) (h0 : 0 ≤ a0) (h1 : a0 ≤ 65535) (w : World) :
    Calls Trym.prog 4 #[.int .u16 a0, .bool a1, .int .i64 a2, .int .i64 a3, .int .i64 a4] w fun e w' => e = .returned (.bool true) ∧ Below w.heap.size w w' := by
  by_cases h : a3 < 0 ∨ 65535 < a3 ∨ a4 < a3 + 10 ∨ 65535 < a4
  · exact data_out a0 a1 a2 a3 a4 h w
  · obtain ⟨f, rfl⟩ := Int.eq_ofNat_of_zero_le (show 0 ≤ a3 by omega)
    obtain ⟨n, rfl⟩ := Int.eq_ofNat_of_zero_le (show 0 ≤ a4 by omega)
    exact data_walk a0 a1 a2 h0 h1 f n (by omega) (by omega) w
end Go.Proofs.Qxb6605744aMods.W
