import Derived.Test.Qxb6605744aModsW1
import Derived.Laws.BitsAllLaws
namespace Go.Proofs.Qxb6605744aMods.W
open Go.ChangeShapes Go.WideShapes Go.ChangeAt Go.RowKit

theorem or32 : bits BinOp.or IntKind.u32 (bits BinOp.or IntKind.u32 (bits BinOp.or IntKind.u32 167772160 720896) 3072) 13 = 168496141 := by decide +kernel

theorem wrap_i64_small (n : Int) (h0 : 0 ≤ n) (h1 : n < 1000000) : IntKind.i64.wrap n = n := by
  simp [IntKind.wrap, IntKind.bits, IntKind.signed]
  split <;> omega

theorem or64_nat (x y : Nat) (hx : x ≤ 255) (hy : y ≤ 255) : bits .or .i64 ((x * 256 : Nat) : Int) (y : Int) = ((x * 256 + y : Nat) : Int) := by
  show IntKind.i64.wrap ((BitVec.ofInt 64 ((x * 256 : Nat) : Int) ||| BitVec.ofInt 64 (y : Int)).toNat : Int) = _
  rw [BitVec.toNat_or, ofInt_u64 _ (by omega), ofInt_u64 y (by omega), nat_join 8 (x * 256) y (by omega) (by omega)]
  exact wrap_i64_small _ (by omega) (by omega)

theorem or64 (x y : Int) (hx0 : 0 ≤ x) (hx : x ≤ 255) (hy0 : 0 ≤ y) (hy : y ≤ 255) : bits .or .i64 (x * 256) y = x * 256 + y := by
  obtain ⟨A, rfl⟩ := Int.eq_ofNat_of_zero_le hx0
  obtain ⟨B, rfl⟩ := Int.eq_ofNat_of_zero_le hy0
  have := or64_nat A B (by omega) (by omega)
  simpa using this

theorem ret_int {k : IntKind} {a b : Int} (h : a = b) : Ending.returned (.int k a) = .returned (.int k b) := by rw [h]

set_option maxHeartbeats 400000 in
theorem put_any (g n p : Nat) (v : Int) (h0 : 0 ≤ v) (h1 : v ≤ 65535) (hp : p + 1 < n) (hn : n ≤ 100000) (x y : Value) (w : World)
    (hx : w.cell? ⟨g, p, none⟩ = some x) (hy : w.cell? ⟨g, p + 1, none⟩ = some y)
    (fx : w.frozen? ⟨g, p, none⟩ = false) (fy : w.frozen? ⟨g, p + 1, none⟩ = false) :
    Calls Trym.prog 6 #[.slice (some ⟨g, 0, none⟩) n n, .int .i64 (p : Int), .int .i64 v] w fun e w' => e = .returned (.tuple #[]) ∧
      w' = (w.setCell ⟨g, p, none⟩ (.int .u8 (v / 256))).setCell ⟨g, p + 1, none⟩ (.int .u8 (v % 256)) := by
  go_enter Trym.func6, Trym.ntmps6
  go_wp2
  go_end0
  exact ⟨rfl, rfl⟩

set_option maxHeartbeats 400000 in
theorem ttl_any (a0 : Int) (a1 : Bool) (a2 a3 a4 : Int) (h0 : 0 ≤ a3) (h1 : a3 ≤ 100000) (w : World) :
    Calls Trym.prog 7 #[.agg #[.int .u16 a0, .bool a1, .int .i64 a2, .int .i64 a3, .int .i64 a4]] w fun e w' => e = .returned (.int .i64 (a3 + 4)) ∧
      w' = w.alloc (.cells #[.int .u16 a0, .bool a1, .int .i64 a2, .int .i64 a3, .int .i64 a4] 27) := by
  go_enter Trym.func7, Trym.ntmps7
  go_wp2
  go_ret
  exact ⟨rfl, rfl⟩

set_option maxHeartbeats 400000 in
theorem data_any (a0 : Int) (a1 : Bool) (a2 a3 a4 : Int) (h0 : 0 ≤ a3) (h1 : a3 ≤ 100000) (w : World) :
    Calls Trym.prog 9 #[.agg #[.int .u16 a0, .bool a1, .int .i64 a2, .int .i64 a3, .int .i64 a4]] w fun e w' => e = .returned (.int .i64 (a3 + 10)) ∧
      w' = w.alloc (.cells #[.int .u16 a0, .bool a1, .int .i64 a2, .int .i64 a3, .int .i64 a4] 27) := by
  go_enter Trym.func9, Trym.ntmps9
  go_wp2
  go_ret
  exact ⟨rfl, rfl⟩

set_option maxHeartbeats 400000 in
theorem get32_any (g n p : Nat) (hp : p + 3 < n) (hn : n ≤ 100000) (w : World)
    (c0 : w.cell? ⟨g, p, none⟩ = some (.int .u8 10)) (c1 : w.cell? ⟨g, p + 1, none⟩ = some (.int .u8 11))
    (c2 : w.cell? ⟨g, p + 2, none⟩ = some (.int .u8 12)) (c3 : w.cell? ⟨g, p + 3, none⟩ = some (.int .u8 13)) :
    Calls Trym.prog 8 #[.slice (some ⟨g, 0, none⟩) n n, .int .i64 (p : Int)] w fun e w' => e = .returned (.int .u32 168496141) ∧
      ∃ k, w' = w.drewN k := by
  have b0 : (0 : Int) ≤ p := by omega
  have b1 : (p : Int) + 3 < n := by omega
  go_enter Trym.func8, Trym.ntmps8
  go_wp2
  go_quiet (fail)
  go_wp2
  go_ret
  exact ⟨ret_int or32, nq, rfl⟩

set_option maxHeartbeats 400000 in
theorem get16_any (g n p : Nat) (hp : p + 1 < n) (hn : n ≤ 100000) (x y : Int) (hx0 : 0 ≤ x) (hx : x ≤ 255) (hy0 : 0 ≤ y) (hy : y ≤ 255) (w : World)
    (c0 : w.cell? ⟨g, p, none⟩ = some (.int .u8 x)) (c1 : w.cell? ⟨g, p + 1, none⟩ = some (.int .u8 y)) :
    Calls Trym.prog 10 #[.slice (some ⟨g, 0, none⟩) n n, .int .i64 (p : Int)] w fun e w' => e = .returned (.int .i64 (x * 256 + y)) ∧
      ∃ k, w' = w.drewN k := by
  have b0 : (0 : Int) ≤ p := by omega
  have b1 : (p : Int) + 1 < n := by omega
  go_enter Trym.func10, Trym.ntmps10
  go_wp2
  go_quiet (fail)
  go_wp2
  go_ret
  exact ⟨ret_int (or64 x y hx0 hx hy0 hy), nq, rfl⟩
end Go.Proofs.Qxb6605744aMods.W
