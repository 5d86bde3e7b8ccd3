import Derived.Test.Qxb6605744aModsW2
import Derived.Deep.RegionWith
import Derived.WalkSmall
namespace Go.Proofs.Qxb6605744aMods.W
open Go.ChangeShapes Go.WideShapes Go.ChangeAt Go.RowKit

theorem Trym.info5 : (Trym.prog.info? 5).map (fun i => (i.zero, i.size, i.bytes)) = some (some (.int .u8 0), 1, 1) := by kernel_rfl

theorem off0 (w : World) : Calls Trym.prog 5 #[.int .i64 0] w fun e w' => e = .returned (.int .i64 0) ∧ w' = w := offset_any 0 (by omega) w
theorem off1 (w : World) : Calls Trym.prog 5 #[.int .i64 1] w fun e w' => e = .returned (.int .i64 2) ∧ w' = w := offset_any 1 (by omega) w
theorem off2 (w : World) : Calls Trym.prog 5 #[.int .i64 2] w fun e w' => e = .returned (.int .i64 4) ∧ w' = w := offset_any 2 (by omega) w
theorem off3 (w : World) : Calls Trym.prog 5 #[.int .i64 3] w fun e w' => e = .returned (.int .i64 8) ∧ w' = w := offset_any 3 (by omega) w
theorem off4 (w : World) : Calls Trym.prog 5 #[.int .i64 4] w fun e w' => e = .returned (.int .i64 10) ∧ w' = w := offset_any 4 (by omega) w

/-- The row g has n cells, none frozen. -/
def Has (w : World) (g n : Nat) : Prop := (∀ j, j < n → ∃ x, w.cell? ⟨g, j, none⟩ = some x) ∧ ∀ j, w.frozen? ⟨g, j, none⟩ = false

theorem Has.set {w : World} {g n : Nat} (h : Has w g n) (a : Addr) (u : Value) : Has (w.setCell a u) g n := by
  refine ⟨fun j hj => ?_, fun j => (World.frozen?_setCell _ _ _ _).trans (h.2 j)⟩
  obtain ⟨x, hx⟩ := h.1 j hj
  exact cell?_setCell_some hx

theorem put_q (g n p : Nat) (q v : Int) (hq : q = p) (h0 : 0 ≤ v) (h1 : v ≤ 65535) (hp : p + 1 < n) (hn : n ≤ 100000) (w : World) (hh : Has w g n) :
    Calls Trym.prog 6 #[.slice (some ⟨g, 0, none⟩) n n, .int .i64 q, .int .i64 v] w fun e w' => e = .returned (.tuple #[]) ∧
      w' = (w.setCell ⟨g, p, none⟩ (.int .u8 (v / 256))).setCell ⟨g, p + 1, none⟩ (.int .u8 (v % 256)) ∧ Has w' g n := by
  subst hq
  obtain ⟨x, hx⟩ := hh.1 p (by omega)
  obtain ⟨y, hy⟩ := hh.1 (p + 1) (by omega)
  refine (put_any g n p v h0 h1 hp hn x y w hx hy (hh.2 _) (hh.2 _)).mono ?_
  rintro e w' ⟨rfl, rfl⟩
  exact ⟨rfl, rfl, (hh.set _ _).set _ _⟩

theorem has_of_own {w : World} {B g n : Nat} {xs : List Value} (h : w.ownsRow B 5 1 (.slice (some ⟨g, 0, none⟩) n n) n xs) (hl : xs.length = n) : Has w g n := by
  refine ⟨fun j hj => ⟨xs[j], ?_⟩, fun j => h.frozenAt j⟩
  rw [h.cellAt j (by omega)]
  simp

theorem get32_q (g n p : Nat) (q : Int) (hq : q = p) (hp : p + 3 < n) (hn : n ≤ 100000) (w : World)
    (c0 : w.cell? ⟨g, p, none⟩ = some (.int .u8 10)) (c1 : w.cell? ⟨g, p + 1, none⟩ = some (.int .u8 11))
    (c2 : w.cell? ⟨g, p + 2, none⟩ = some (.int .u8 12)) (c3 : w.cell? ⟨g, p + 3, none⟩ = some (.int .u8 13)) :
    Calls Trym.prog 8 #[.slice (some ⟨g, 0, none⟩) n n, .int .i64 q] w fun e w' => e = .returned (.int .u32 168496141) ∧
      Below w.heap.size w w' := by
  subst hq
  refine (get32_any g n p hp hn w c0 c1 c2 c3).mono ?_
  rintro e w' ⟨rfl, k, rfl⟩
  exact ⟨rfl, below_drewN (Below.refl _ _) k⟩

theorem lt_of_cell {w : World} {b o : Nat} {x : Value} (h : w.cell? ⟨b, o, none⟩ = some x) : b < w.heap.size := by
  by_cases hb : b < w.heap.size
  · exact hb
  · have : w.heap[b]? = none := by simp; omega
    simp [World.cell?, this] at h

set_option maxHeartbeats 1000000 in
theorem ttl_walk (a0 : Int) (a1 : Bool) (a2 : Int) (a4 : Int) (h0 : 0 ≤ a0) (h1 : a0 ≤ 65535) (f : Nat) (hf : f ≤ 65525) (w : World) :
    Calls Trym.prog 3 #[.int .u16 a0, .bool a1, .int .i64 a2, .int .i64 (f : Int), .int .i64 a4] w fun e w' => e = .returned (.bool true) ∧ Below w.heap.size w w' := by
  obtain ⟨i0, hi, hz0, hz1, hz2⟩ := info_parts Trym.info5
  go_enter Trym.func3, Trym.ntmps3
  go_wp2_with (first
    | (go_at_call 5; refine (off4 _).mono ?_; rintro e w' ⟨rfl, hw⟩; subst w')
    | (at_make; refine wpList_make_full _ rfl (.tmp 28) (.tmp 28) 24 rfl w.heap.size 5 i0 (.int .u8 0) 1 Trym.underlying24 hi hz0 hz1 .i64 .i64 _ _ (f + 10) rfl rfl (by omega) (by omega) (by rw [hz2]; omega) (by unfold maxLen; omega) (Nat.le_refl _) ?_; intro w1 hown hgrow))
  have hh : Has w1 w.heap.size (f + 10) := has_of_own hown (by simp [madeCells])
  have hb : Below w.heap.size w w1 := (Below.refl _ _).grown hgrow (Nat.le_refl _) (by intro k hk; cases hk)
  clear hown hgrow hi hz0 hz1 hz2
  go_loopw [13] (fun i wr => ∃ k : Nat, k ≤ f + 10 ∧ i = .int .i64 k ∧ Has wr w.heap.size (f + 10) ∧ Below w.heap.size w wr) (fun i _ => f + 10 - (intOf i).toNat)
  case atStart => exact ⟨0, Nat.zero_le _, rfl, hh, hb⟩
  case round =>
    obtain ⟨k, hk, rfl, hr, hbr⟩ := hrel
    clear hh hb
    by_cases hlt : k < f + 10
    · obtain ⟨x, hx⟩ := hr.1 k hlt
      have fx := hr.2 k
      go_wp2
      go_roundw
      case rel => exact ⟨k + 1, by omega, by go_num, hr.set _ _, hbr.setCell (Nat.le_refl _) _⟩
      case measure => simp [intOf]; omega
    · obtain ⟨x4, c4⟩ := hr.1 (f + 4) (by omega)
      obtain ⟨x5, c5⟩ := hr.1 (f + 5) (by omega)
      obtain ⟨x6, c6⟩ := hr.1 (f + 6) (by omega)
      obtain ⟨x7, c7⟩ := hr.1 (f + 7) (by omega)
      have hsz : w.heap.size < wr.heap.size := lt_of_cell c4
      have z4 := hr.2 (f + 4)
      have z5 := hr.2 (f + 5)
      have z6 := hr.2 (f + 6)
      have z7 := hr.2 (f + 7)
      go_wp2_with (first
        | (go_at_call_of 5 (Value.int IntKind.i64 0); refine (off0 _).mono ?_; rintro e w' ⟨rfl, hw⟩; subst w')
        | (go_at_call_of 5 (Value.int IntKind.i64 1); refine (off1 _).mono ?_; rintro e w' ⟨rfl, hw⟩; subst w')
        | (go_at_call_of 5 (Value.int IntKind.i64 2); refine (off2 _).mono ?_; rintro e w' ⟨rfl, hw⟩; subst w')
        | (go_at_call_of 5 (Value.int IntKind.i64 3); refine (off3 _).mono ?_; rintro e w' ⟨rfl, hw⟩; subst w')
        | (go_at_call_of 6 (Value.int IntKind.i64 a0); refine (put_q w.heap.size (f + 10) f _ _ (by omega) h0 h1 (by omega) (by omega) _ hr).mono ?_; rintro e w' ⟨rfl, hw, hr1⟩; subst w')
        | (go_at_call_of 6 (Value.int IntKind.i64 1); refine (put_q w.heap.size (f + 10) (f + 2) _ _ (by omega) (by omega) (by omega) (by omega) (by omega) _ hr1).mono ?_; rintro e w' ⟨rfl, hw, hr2⟩; subst w')
        | (go_at_call_of 6 (Value.int IntKind.i64 0); refine (put_q w.heap.size (f + 10) (f + 8) _ _ (by omega) (by omega) (by omega) (by omega) (by omega) _ ((((hr2.set _ _).set _ _).set _ _).set _ _)).mono ?_; rintro e w' ⟨rfl, hw, hr3⟩; subst w')
        | (go_at_call 7; refine (ttl_any _ _ _ _ _ (by omega) (by omega) _).mono ?_; rintro e w' ⟨rfl, hw⟩; subst w')
        | (go_at_call 8; refine (get32_q w.heap.size (f + 10) (f + 4) _ (by omega) (by omega) (by omega) _ (by go_simp) (by go_simp) (by go_simp) (by go_simp)).mono ?_; rintro e w' ⟨rfl, hb4⟩))
      go_ret
      refine ⟨rfl, ?_⟩
      refine Below.trans ?_ (hb4.mono (by simp; omega))
      refine Below.alloc (Below.alloc ?_ (by simp; omega) _) (by simp; omega) _
      iterate 10 refine Below.setCell ?_ (by exact Nat.le_refl _) _
      exact hbr

theorem get16_q (g n p : Nat) (q : Int) (hq : q = p) (hp : p + 1 < n) (hn : n ≤ 100000) (x y : Int) (hx0 : 0 ≤ x) (hx : x ≤ 255) (hy0 : 0 ≤ y) (hy : y ≤ 255) (w : World)
    (c0 : w.cell? ⟨g, p, none⟩ = some (.int .u8 x)) (c1 : w.cell? ⟨g, p + 1, none⟩ = some (.int .u8 y)) :
    Calls Trym.prog 10 #[.slice (some ⟨g, 0, none⟩) n n, .int .i64 q] w fun e w' => e = .returned (.int .i64 (x * 256 + y)) ∧ Below w.heap.size w w' := by
  subst hq
  refine (get16_any g n p hp hn x y hx0 hx hy0 hy w c0 c1).mono ?_
  rintro e w' ⟨rfl, k, rfl⟩
  exact ⟨rfl, below_drewN (Below.refl _ _) k⟩

set_option maxHeartbeats 1000000 in
theorem ttl_out (a0 : Int) (a1 : Bool) (a2 : Int) (a3 a4 : Int) (h : a3 < 0 ∨ 65525 < a3) (w : World) :
    Calls Trym.prog 3 #[.int .u16 a0, .bool a1, .int .i64 a2, .int .i64 a3, .int .i64 a4] w fun e w' => e = .returned (.bool true) ∧ Below w.heap.size w w' := by
  rcases h with h | h
  · go_enter Trym.func3, Trym.ntmps3
    go_wp2
    go_ret
    exact ⟨rfl, Below.refl _ _⟩
  · have h' : ¬ a3 < 0 := by omega
    go_enter Trym.func3, Trym.ntmps3
    go_wp2_with (go_at_call 5; refine (off4 _).mono ?_; rintro e w' ⟨rfl, hw⟩; subst w')
    go_ret
    exact ⟨rfl, Below.refl _ _⟩

theorem ttl_all (a0 : Int) (a1 : Bool) (a2 : Int) (a3 a4 : Int) (h0 : 0 ≤ a0) (h1 : a0 ≤ 65535) (w : World) :
    Calls Trym.prog 3 #[.int .u16 a0, .bool a1, .int .i64 a2, .int .i64 a3, .int .i64 a4] w fun e w' => e = .returned (.bool true) ∧ Below w.heap.size w w' := by
  by_cases h : a3 < 0 ∨ 65525 < a3
  · exact ttl_out a0 a1 a2 a3 a4 h w
  · obtain ⟨f, rfl⟩ := Int.eq_ofNat_of_zero_le (show 0 ≤ a3 by omega)
    exact ttl_walk a0 a1 a2 a4 h0 h1 f (by omega) w
end Go.Proofs.Qxb6605744aMods.W
